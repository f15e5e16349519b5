/- Films: toNYCbCrA; Offsets; NYCbCrAAt. -/
import Derived.Test.YtcomldkihibfjaaOf
import Derived.Test.YtcomldkihibfjaaCut
namespace Go.Proofs.Ytcomldkihibfjaa
open Go.RowKit
set_option linter.unusedVariables false
set_option linter.unusedSimpArgs false

theorem own_blk {w : World} {base e size n g : Nat} {v : Value} {xs : List Value} {cs : Array Value} {t : TypeId} (h : w.ownsRow base e size v n xs) (hg : w.heap[g]? = some (.cells cs t (0, 0))) (hne : e ≠ t) : some g ≠ v.ownBlock := by
  rcases h.2 with ⟨rfl, _⟩ | ⟨g', cap, cur, rfl, _, hh, _⟩
  · simp [Value.ownBlock]
  · intro e0
    have : g = g' := by simpa [Value.ownBlock] using e0
    subst this
    rw [hg] at hh
    injection hh with hh
    injection hh with _ ht
    exact hne ht.symm
theorem row_cell {w : World} {g i : Nat} {cs : Array Value} {t : TypeId} {f : Nat × Nat} {v : Value} (h : w.heap[g]? = some (.cells cs t f)) (hv : cs[i]? = some v) : w.cell? ⟨g, i, none⟩ = some v := (cell_of_row w g i cs t f h).trans hv
theorem sets10 {u : World} {X : Nat} {t : TypeId} {a0 a1 a2 a3 a4 a5 a6 a7 a8 a9 b0 b1 b2 b3 b4 b5 b6 b7 b8 b9 : Value} (HZ : u.heap[X]? = some (.cells #[a0, a1, a2, a3, a4, a5, a6, a7, a8, a9] t (0, 0))) : ((((((((((u.setCell ⟨X, 0, none⟩ b0).setCell ⟨X, 1, none⟩ b1).setCell ⟨X, 2, none⟩ b2).setCell ⟨X, 3, none⟩ b3).setCell ⟨X, 4, none⟩ b4).setCell ⟨X, 5, none⟩ b5).setCell ⟨X, 6, none⟩ b6).setCell ⟨X, 7, none⟩ b7).setCell ⟨X, 8, none⟩ b8).setCell ⟨X, 9, none⟩ b9).heap[X]? = some (.cells #[b0, b1, b2, b3, b4, b5, b6, b7, b8, b9] t (0, 0)) := by
  have h1 := heap_setCell_same _ X 0 _ _ b0 HZ
  have h2 := heap_setCell_same _ X 1 _ _ b1 h1
  have h3 := heap_setCell_same _ X 2 _ _ b2 h2
  have h4 := heap_setCell_same _ X 3 _ _ b3 h3
  have h5 := heap_setCell_same _ X 4 _ _ b4 h4
  have h6 := heap_setCell_same _ X 5 _ _ b5 h5
  have h7 := heap_setCell_same _ X 6 _ _ b6 h6
  have h8 := heap_setCell_same _ X 7 _ _ b7 h7
  have h9 := heap_setCell_same _ X 8 _ _ b8 h8
  have h10 := heap_setCell_same _ X 9 _ _ b9 h9
  simpa only [List.setIfInBounds_toArray, List.set_cons_zero, List.set_cons_succ] using h10
theorem sets10_own {u : World} {X : Nat} {t : TypeId} {cs : Array Value} {b0 b1 b2 b3 b4 b5 b6 b7 b8 b9 : Value} {base e size n : Nat} {v : Value} {xs : List Value} (h : u.ownsRow base e size v n xs) (HZ : u.heap[X]? = some (.cells cs t (0, 0))) (hne : e ≠ t) : ((((((((((u.setCell ⟨X, 0, none⟩ b0).setCell ⟨X, 1, none⟩ b1).setCell ⟨X, 2, none⟩ b2).setCell ⟨X, 3, none⟩ b3).setCell ⟨X, 4, none⟩ b4).setCell ⟨X, 5, none⟩ b5).setCell ⟨X, 6, none⟩ b6).setCell ⟨X, 7, none⟩ b7).setCell ⟨X, 8, none⟩ b8).setCell ⟨X, 9, none⟩ b9).ownsRow base e size v n xs := by
  have g0 : u.grownBy u (some X) := grown_of (Below.refl _ _)
  have g1 := grown_setCell g0 (p := ⟨X, 0, none⟩) (Or.inl rfl) b0
  have g2 := grown_setCell g1 (p := ⟨X, 1, none⟩) (Or.inl rfl) b1
  have g3 := grown_setCell g2 (p := ⟨X, 2, none⟩) (Or.inl rfl) b2
  have g4 := grown_setCell g3 (p := ⟨X, 3, none⟩) (Or.inl rfl) b3
  have g5 := grown_setCell g4 (p := ⟨X, 4, none⟩) (Or.inl rfl) b4
  have g6 := grown_setCell g5 (p := ⟨X, 5, none⟩) (Or.inl rfl) b5
  have g7 := grown_setCell g6 (p := ⟨X, 6, none⟩) (Or.inl rfl) b6
  have g8 := grown_setCell g7 (p := ⟨X, 7, none⟩) (Or.inl rfl) b7
  have g9 := grown_setCell g8 (p := ⟨X, 8, none⟩) (Or.inl rfl) b8
  have g10 := grown_setCell g9 (p := ⟨X, 9, none⟩) (Or.inl rfl) b9
  exact h.kept g10 (Or.inr (own_blk h HZ hne).symm)
theorem sets10_below {u W : World} {X B : Nat} {b0 b1 b2 b3 b4 b5 b6 b7 b8 b9 : Value} (h : Below B W u) (hX : B ≤ X) : Below B W ((((((((((u.setCell ⟨X, 0, none⟩ b0).setCell ⟨X, 1, none⟩ b1).setCell ⟨X, 2, none⟩ b2).setCell ⟨X, 3, none⟩ b3).setCell ⟨X, 4, none⟩ b4).setCell ⟨X, 5, none⟩ b5).setCell ⟨X, 6, none⟩ b6).setCell ⟨X, 7, none⟩ b7).setCell ⟨X, 8, none⟩ b8).setCell ⟨X, 9, none⟩ b9) := by
  have h1 := h.setCell (p := ⟨X, 0, none⟩) hX b0
  have h2 := h1.setCell (p := ⟨X, 1, none⟩) hX b1
  have h3 := h2.setCell (p := ⟨X, 2, none⟩) hX b2
  have h4 := h3.setCell (p := ⟨X, 3, none⟩) hX b3
  have h5 := h4.setCell (p := ⟨X, 4, none⟩) hX b4
  have h6 := h5.setCell (p := ⟨X, 5, none⟩) hX b5
  have h7 := h6.setCell (p := ⟨X, 6, none⟩) hX b6
  have h8 := h7.setCell (p := ⟨X, 7, none⟩) hX b7
  have h9 := h8.setCell (p := ⟨X, 8, none⟩) hX b8
  have h10 := h9.setCell (p := ⟨X, 9, none⟩) hX b9
  exact h10
theorem ratioOf_any (n : Int) (w : World) : Calls Try.prog 34 #[.int .i64 n] w fun e w' => e = .returned (.int .i64 n) ∧ Below w.heap.size w w' := by
  go_enter Try.func34, Try.ntmps34
  go_wp2
  go_ret
  exact ⟨by simp, Below.refl _ _⟩

/-- What a call hands back that makes a film of its own with these bytes. -/
def FilmBack (z1 z2 z3 z4 : List Int) (rt ys cs at4 x0 y0 x1 y1 : Int) (w : World) (e : Ending) (w' : World) : Prop :=
  ∃ (g : Nat) (A1 A2 A3 A4 : Option Addr) (c1 c2 c3 c4 : Nat), e = .returned (.pointer (some ⟨g, 0, none⟩)) ∧ w.heap.size ≤ g ∧ w'.heap[g]? = some (.cells #[.slice A1 z1.length c1, .slice A2 z2.length c2, .slice A3 z3.length c3, .int .i64 ys, .int .i64 cs, .int .i64 rt, .int .i64 x0, .int .i64 y0, .int .i64 x1, .int .i64 y1, .slice A4 z4.length c4, .int .i64 at4] 83 (0, 0)) ∧
    w'.ownsRow w.heap.size 5 1 (.slice A1 z1.length c1) z1.length (z1.map (Value.int .u8)) ∧ w'.ownsRow w.heap.size 5 1 (.slice A2 z2.length c2) z2.length (z2.map (Value.int .u8)) ∧ w'.ownsRow w.heap.size 5 1 (.slice A3 z3.length c3) z3.length (z3.map (Value.int .u8)) ∧ w'.ownsRow w.heap.size 5 1 (.slice A4 z4.length c4) z4.length (z4.map (Value.int .u8)) ∧ Below w.heap.size w w'

set_option maxRecDepth 100000 in
set_option maxHeartbeats 8000000 in
theorem to_any (x0 y0 x1 y1 rt ys cs at4 : Int) (A1 A2 A3 A4 : Option Addr) (c1 c2 c3 c4 : Nat) (z1 z2 z3 z4 : List Int) (w : World) (hr1 : Hid (Reads w A1 z1)) (hl1 : Small z1) (hn1 : Hid (A1 = none → c1 = 0)) (hr2 : Hid (Reads w A2 z2)) (hl2 : Small z2) (hn2 : Hid (A2 = none → c2 = 0)) (hr3 : Hid (Reads w A3 z3)) (hl3 : Small z3) (hn3 : Hid (A3 = none → c3 = 0)) (hr4 : Hid (Reads w A4 z4)) (hl4 : Small z4) (hn4 : Hid (A4 = none → c4 = 0)) :
    Calls Try.prog 37 #[.agg #[.int .i64 x0, .int .i64 y0, .int .i64 x1, .int .i64 y1, .int .i64 rt, .int .i64 ys, .int .i64 cs, .int .i64 at4, .slice A1 z1.length c1, .slice A2 z2.length c2, .slice A3 z3.length c3, .slice A4 z4.length c4]] w (FilmBack z1 z2 z3 z4 rt ys cs at4 x0 y0 x1 y1 w) := by
  have hB : Below w.heap.size w (w.alloc (.cells #[.int .i64 x0, .int .i64 y0, .int .i64 x1, .int .i64 y1, .int .i64 rt, .int .i64 ys, .int .i64 cs, .int .i64 at4, .slice A1 z1.length c1, .slice A2 z2.length c2, .slice A3 z3.length c3, .slice A4 z4.length c4] 30)) := (Below.refl _ _).alloc (Nat.le_refl _) _
  have D0 : (w.alloc (.cells #[.int .i64 x0, .int .i64 y0, .int .i64 x1, .int .i64 y1, .int .i64 rt, .int .i64 ys, .int .i64 cs, .int .i64 at4, .slice A1 z1.length c1, .slice A2 z2.length c2, .slice A3 z3.length c3, .slice A4 z4.length c4] 30)).cell? ⟨w.heap.size, 0, none⟩ = some (.int .i64 x0) := by first | (simp; done) | go_simp
  have D1 : (w.alloc (.cells #[.int .i64 x0, .int .i64 y0, .int .i64 x1, .int .i64 y1, .int .i64 rt, .int .i64 ys, .int .i64 cs, .int .i64 at4, .slice A1 z1.length c1, .slice A2 z2.length c2, .slice A3 z3.length c3, .slice A4 z4.length c4] 30)).cell? ⟨w.heap.size, 1, none⟩ = some (.int .i64 y0) := by first | (simp; done) | go_simp
  have D2 : (w.alloc (.cells #[.int .i64 x0, .int .i64 y0, .int .i64 x1, .int .i64 y1, .int .i64 rt, .int .i64 ys, .int .i64 cs, .int .i64 at4, .slice A1 z1.length c1, .slice A2 z2.length c2, .slice A3 z3.length c3, .slice A4 z4.length c4] 30)).cell? ⟨w.heap.size, 2, none⟩ = some (.int .i64 x1) := by first | (simp; done) | go_simp
  have D3 : (w.alloc (.cells #[.int .i64 x0, .int .i64 y0, .int .i64 x1, .int .i64 y1, .int .i64 rt, .int .i64 ys, .int .i64 cs, .int .i64 at4, .slice A1 z1.length c1, .slice A2 z2.length c2, .slice A3 z3.length c3, .slice A4 z4.length c4] 30)).cell? ⟨w.heap.size, 3, none⟩ = some (.int .i64 y1) := by first | (simp; done) | go_simp
  have D4 : (w.alloc (.cells #[.int .i64 x0, .int .i64 y0, .int .i64 x1, .int .i64 y1, .int .i64 rt, .int .i64 ys, .int .i64 cs, .int .i64 at4, .slice A1 z1.length c1, .slice A2 z2.length c2, .slice A3 z3.length c3, .slice A4 z4.length c4] 30)).cell? ⟨w.heap.size, 4, none⟩ = some (.int .i64 rt) := by first | (simp; done) | go_simp
  have D5 : (w.alloc (.cells #[.int .i64 x0, .int .i64 y0, .int .i64 x1, .int .i64 y1, .int .i64 rt, .int .i64 ys, .int .i64 cs, .int .i64 at4, .slice A1 z1.length c1, .slice A2 z2.length c2, .slice A3 z3.length c3, .slice A4 z4.length c4] 30)).cell? ⟨w.heap.size, 5, none⟩ = some (.int .i64 ys) := by first | (simp; done) | go_simp
  have D6 : (w.alloc (.cells #[.int .i64 x0, .int .i64 y0, .int .i64 x1, .int .i64 y1, .int .i64 rt, .int .i64 ys, .int .i64 cs, .int .i64 at4, .slice A1 z1.length c1, .slice A2 z2.length c2, .slice A3 z3.length c3, .slice A4 z4.length c4] 30)).cell? ⟨w.heap.size, 6, none⟩ = some (.int .i64 cs) := by first | (simp; done) | go_simp
  have D7 : (w.alloc (.cells #[.int .i64 x0, .int .i64 y0, .int .i64 x1, .int .i64 y1, .int .i64 rt, .int .i64 ys, .int .i64 cs, .int .i64 at4, .slice A1 z1.length c1, .slice A2 z2.length c2, .slice A3 z3.length c3, .slice A4 z4.length c4] 30)).cell? ⟨w.heap.size, 7, none⟩ = some (.int .i64 at4) := by first | (simp; done) | go_simp
  have D8 : (w.alloc (.cells #[.int .i64 x0, .int .i64 y0, .int .i64 x1, .int .i64 y1, .int .i64 rt, .int .i64 ys, .int .i64 cs, .int .i64 at4, .slice A1 z1.length c1, .slice A2 z2.length c2, .slice A3 z3.length c3, .slice A4 z4.length c4] 30)).cell? ⟨w.heap.size, 8, none⟩ = some (.slice A1 z1.length c1) := by first | (simp; done) | go_simp
  have D9 : (w.alloc (.cells #[.int .i64 x0, .int .i64 y0, .int .i64 x1, .int .i64 y1, .int .i64 rt, .int .i64 ys, .int .i64 cs, .int .i64 at4, .slice A1 z1.length c1, .slice A2 z2.length c2, .slice A3 z3.length c3, .slice A4 z4.length c4] 30)).cell? ⟨w.heap.size, 9, none⟩ = some (.slice A2 z2.length c2) := by first | (simp; done) | go_simp
  have D10 : (w.alloc (.cells #[.int .i64 x0, .int .i64 y0, .int .i64 x1, .int .i64 y1, .int .i64 rt, .int .i64 ys, .int .i64 cs, .int .i64 at4, .slice A1 z1.length c1, .slice A2 z2.length c2, .slice A3 z3.length c3, .slice A4 z4.length c4] 30)).cell? ⟨w.heap.size, 10, none⟩ = some (.slice A3 z3.length c3) := by first | (simp; done) | go_simp
  have D11 : (w.alloc (.cells #[.int .i64 x0, .int .i64 y0, .int .i64 x1, .int .i64 y1, .int .i64 rt, .int .i64 ys, .int .i64 cs, .int .i64 at4, .slice A1 z1.length c1, .slice A2 z2.length c2, .slice A3 z3.length c3, .slice A4 z4.length c4] 30)).cell? ⟨w.heap.size, 11, none⟩ = some (.slice A4 z4.length c4) := by first | (simp; done) | go_simp
  have HR1 := Lib.hid (hr1.out.below hB)
  have HR2 := Lib.hid (hr2.out.below hB)
  have HR3 := Lib.hid (hr3.out.below hB)
  have HR4 := Lib.hid (hr4.out.below hB)
  have hsz0 : w.heap.size ≤ (w.alloc (.cells #[.int .i64 x0, .int .i64 y0, .int .i64 x1, .int .i64 y1, .int .i64 rt, .int .i64 ys, .int .i64 cs, .int .i64 at4, .slice A1 z1.length c1, .slice A2 z2.length c2, .slice A3 z3.length c3, .slice A4 z4.length c4] 30)).heap.size := hB.size
  have tok1 : True := trivial
  have tok2 : True := trivial
  go_enter Try.func37, Try.ntmps37
  go_wp2_with fail
  generalize (w.alloc (.cells #[.int .i64 x0, .int .i64 y0, .int .i64 x1, .int .i64 y1, .int .i64 rt, .int .i64 ys, .int .i64 cs, .int .i64 at4, .slice A1 z1.length c1, .slice A2 z2.length c2, .slice A3 z3.length c3, .slice A4 z4.length c4] 30)) = W0 at *
  go_upto_region 1 with fail
  have P0 : Below W0.heap.size W0 W0.drew := (Below.refl _ _).drew
  have P0a : Below W0.heap.size W0 (W0.alloc (.cells #[.slice none 0 0, .slice none 0 0, .slice none 0 0, .int .i64 0, .int .i64 0, .int .i64 0, .int .i64 0, .int .i64 0, .int .i64 0, .int .i64 0] 81)).drew := ((Below.refl _ _).alloc (Nat.le_refl _) _).drew
  have toS : ∀ W' : World, Below W0.heap.size W0 W' → (W'.cell? ⟨w.heap.size, 0, none⟩ = some (.int .i64 x0) ∧ W'.cell? ⟨w.heap.size, 1, none⟩ = some (.int .i64 y0) ∧ W'.cell? ⟨w.heap.size, 2, none⟩ = some (.int .i64 x1) ∧ W'.cell? ⟨w.heap.size, 3, none⟩ = some (.int .i64 y1) ∧ W'.cell? ⟨w.heap.size, 4, none⟩ = some (.int .i64 rt) ∧ W'.cell? ⟨w.heap.size, 5, none⟩ = some (.int .i64 ys) ∧ W'.cell? ⟨w.heap.size, 6, none⟩ = some (.int .i64 cs) ∧ W'.cell? ⟨w.heap.size, 7, none⟩ = some (.int .i64 at4) ∧ W'.cell? ⟨w.heap.size, 8, none⟩ = some (.slice A1 z1.length c1) ∧ W'.cell? ⟨w.heap.size, 9, none⟩ = some (.slice A2 z2.length c2) ∧ W'.cell? ⟨w.heap.size, 10, none⟩ = some (.slice A3 z3.length c3) ∧ W'.cell? ⟨w.heap.size, 11, none⟩ = some (.slice A4 z4.length c4)) := fun W' h => ⟨cell_kept D0 h, cell_kept D1 h, cell_kept D2 h, cell_kept D3 h, cell_kept D4 h, cell_kept D5 h, cell_kept D6 h, cell_kept D7 h, cell_kept D8 h, cell_kept D9 h, cell_kept D10 h, cell_kept D11 h⟩
  have TOS := Lib.hid toS
  clear toS
  go_cut [3] (fun pp  wx => ∃ (bc : Nat) (B1 : Option Addr) (B2 : Option Addr) (B3 : Option Addr) (e1 : Nat) (e2 : Nat) (e3 : Nat), pp = .pointer (some ⟨bc, 0, none⟩) ∧ W0.heap.size ≤ bc ∧ Below W0.heap.size W0 wx ∧ wx.heap[bc]? = some (.cells #[.slice B1 z1.length e1, .slice B2 z2.length e2, .slice B3 z3.length e3, .int .i64 ys, .int .i64 cs, .int .i64 rt, .int .i64 x0, .int .i64 y0, .int .i64 x1, .int .i64 y1] 81 (0, 0)) ∧ wx.ownsRow W0.heap.size 5 1 (.slice B1 z1.length e1) z1.length (z1.map (Value.int .u8)) ∧ wx.ownsRow W0.heap.size 5 1 (.slice B2 z2.length e2) z2.length (z2.map (Value.int .u8)) ∧ wx.ownsRow W0.heap.size 5 1 (.slice B3 z3.length e3) z3.length (z3.map (Value.int .u8)))
  case first =>
    go_region_held3 (fun w' => w'.cell? ⟨w.heap.size, 0, none⟩ = some (.int .i64 x0) ∧ w'.cell? ⟨w.heap.size, 1, none⟩ = some (.int .i64 y0) ∧ w'.cell? ⟨w.heap.size, 2, none⟩ = some (.int .i64 x1) ∧ w'.cell? ⟨w.heap.size, 3, none⟩ = some (.int .i64 y1) ∧ w'.cell? ⟨w.heap.size, 4, none⟩ = some (.int .i64 rt) ∧ w'.cell? ⟨w.heap.size, 5, none⟩ = some (.int .i64 ys) ∧ w'.cell? ⟨w.heap.size, 6, none⟩ = some (.int .i64 cs) ∧ w'.cell? ⟨w.heap.size, 7, none⟩ = some (.int .i64 at4) ∧ w'.cell? ⟨w.heap.size, 8, none⟩ = some (.slice A1 z1.length c1) ∧ w'.cell? ⟨w.heap.size, 9, none⟩ = some (.slice A2 z2.length c2) ∧ w'.cell? ⟨w.heap.size, 10, none⟩ = some (.slice A3 z3.length c3) ∧ w'.cell? ⟨w.heap.size, 11, none⟩ = some (.slice A4 z4.length c4))
      ((refine TOS.out _ ?_; first | with_reducible exact P0 | with_reducible exact P0a | with_reducible exact P1 | with_reducible exact P1.alloc P1.size _ | with_reducible exact P2 | with_reducible exact P2.alloc P2.size _ | with_reducible exact P3 | with_reducible exact P3.alloc P3.size _ | with_reducible exact P4 | with_reducible exact P4.alloc P4.size _ | with_reducible exact P5 | with_reducible exact P5.alloc P5.size _ | with_reducible exact sets10_below P5 (Nat.le_refl _) | with_reducible exact sets10_below P5 P1.size | with_reducible exact sets10_below P5 P2.size | with_reducible exact sets10_below P5 P3.size | with_reducible exact sets10_below P5 P4.size))
      (first | (go_at_call 45; have _t := tok1; refine (bytesOf_any A1 c1 z1 _ ?_ hl1 hn1.out).mono ?_; (first | exact HR1.out.below P0 | exact HR1.out.below P0a); rintro e u1 ⟨B1, e1, rfl, ho1, hv1⟩; clear tok1; have HO1 := Lib.hid (ownsRow_base (base := W0.heap.size) ho1 (by first | exact P0.size | exact P0a.size)); clear ho1; (first | (have P1 : Below W0.heap.size W0 u1 := P0.trans (hv1.mono P0.size); skip) | (have P1 : Below W0.heap.size W0 u1 := P0a.trans (hv1.mono P0a.size); have HZ := Lib.hid (heap_kept (w := (W0.alloc (.cells #[.slice none 0 0, .slice none 0 0, .slice none 0 0, .int .i64 0, .int .i64 0, .int .i64 0, .int .i64 0, .int .i64 0, .int .i64 0, .int .i64 0] 81)).drew) (heap_alloc_new W0 (.cells #[.slice none 0 0, .slice none 0 0, .slice none 0 0, .int .i64 0, .int .i64 0, .int .i64 0, .int .i64 0, .int .i64 0, .int .i64 0, .int .i64 0] 81)) hv1)))) | (go_at_call 45; have _t := tok2; refine (bytesOf_any A2 c2 z2 _ ?_ hl2 hn2.out).mono ?_; (first | exact HR2.out.below P1 | exact HR2.out.below (P1.alloc P1.size _)); rintro e u2 ⟨B2, e2, rfl, ho2, hv2⟩; clear tok2; (first | replace HO1 := Lib.hid (ownsRow_below HO1.out hv2) | replace HO1 := Lib.hid (ownsRow_below (HO1.out.alloc _) hv2)); have HO2 := Lib.hid (ownsRow_base (base := W0.heap.size) ho2 (by first | exact P1.size | exact (P1.alloc P1.size _).size)); clear ho2; (first | (have P2 : Below W0.heap.size W0 u2 := P1.trans (hv2.mono P1.size); (try (replace HZ := Lib.hid (heap_kept HZ.out hv2)))) | (have P2 : Below W0.heap.size W0 u2 := (P1.alloc P1.size (.cells #[.slice none 0 0, .slice none 0 0, .slice none 0 0, .int .i64 0, .int .i64 0, .int .i64 0, .int .i64 0, .int .i64 0, .int .i64 0, .int .i64 0] 81)).trans (hv2.mono (P1.alloc P1.size (.cells #[.slice none 0 0, .slice none 0 0, .slice none 0 0, .int .i64 0, .int .i64 0, .int .i64 0, .int .i64 0, .int .i64 0, .int .i64 0, .int .i64 0] 81)).size); have HZ := Lib.hid (heap_kept (w := u1.alloc (.cells #[.slice none 0 0, .slice none 0 0, .slice none 0 0, .int .i64 0, .int .i64 0, .int .i64 0, .int .i64 0, .int .i64 0, .int .i64 0, .int .i64 0] 81)) (heap_alloc_new u1 (.cells #[.slice none 0 0, .slice none 0 0, .slice none 0 0, .int .i64 0, .int .i64 0, .int .i64 0, .int .i64 0, .int .i64 0, .int .i64 0, .int .i64 0] 81)) hv2)))) | (go_at_call 45; refine (bytesOf_any A3 c3 z3 _ ?_ hl3 hn3.out).mono ?_; (first | exact HR3.out.below P2 | exact HR3.out.below (P2.alloc P2.size _)); rintro e u3 ⟨B3, e3, rfl, ho3, hv3⟩; (first | replace HO1 := Lib.hid (ownsRow_below HO1.out hv3) | replace HO1 := Lib.hid (ownsRow_below (HO1.out.alloc _) hv3)); (first | replace HO2 := Lib.hid (ownsRow_below HO2.out hv3) | replace HO2 := Lib.hid (ownsRow_below (HO2.out.alloc _) hv3)); have HO3 := Lib.hid (ownsRow_base (base := W0.heap.size) ho3 (by first | exact P2.size | exact (P2.alloc P2.size _).size)); clear ho3; (first | (have P3 : Below W0.heap.size W0 u3 := P2.trans (hv3.mono P2.size); (try (replace HZ := Lib.hid (heap_kept HZ.out hv3)))) | (have P3 : Below W0.heap.size W0 u3 := (P2.alloc P2.size (.cells #[.slice none 0 0, .slice none 0 0, .slice none 0 0, .int .i64 0, .int .i64 0, .int .i64 0, .int .i64 0, .int .i64 0, .int .i64 0, .int .i64 0] 81)).trans (hv3.mono (P2.alloc P2.size (.cells #[.slice none 0 0, .slice none 0 0, .slice none 0 0, .int .i64 0, .int .i64 0, .int .i64 0, .int .i64 0, .int .i64 0, .int .i64 0, .int .i64 0] 81)).size); have HZ := Lib.hid (heap_kept (w := u2.alloc (.cells #[.slice none 0 0, .slice none 0 0, .slice none 0 0, .int .i64 0, .int .i64 0, .int .i64 0, .int .i64 0, .int .i64 0, .int .i64 0, .int .i64 0] 81)) (heap_alloc_new u2 (.cells #[.slice none 0 0, .slice none 0 0, .slice none 0 0, .int .i64 0, .int .i64 0, .int .i64 0, .int .i64 0, .int .i64 0, .int .i64 0, .int .i64 0] 81)) hv3)))) | (go_at_call 34; refine (ratioOf_any rt _).mono ?_; rintro e u4 ⟨rfl, hv4⟩; (first | replace HO1 := Lib.hid (ownsRow_below HO1.out hv4) | replace HO1 := Lib.hid (ownsRow_below (HO1.out.alloc _) hv4)); (first | replace HO2 := Lib.hid (ownsRow_below HO2.out hv4) | replace HO2 := Lib.hid (ownsRow_below (HO2.out.alloc _) hv4)); (first | replace HO3 := Lib.hid (ownsRow_below HO3.out hv4) | replace HO3 := Lib.hid (ownsRow_below (HO3.out.alloc _) hv4)); (first | (have P4 : Below W0.heap.size W0 u4 := P3.trans (hv4.mono P3.size); (try (replace HZ := Lib.hid (heap_kept HZ.out hv4)))) | (have P4 : Below W0.heap.size W0 u4 := (P3.alloc P3.size (.cells #[.slice none 0 0, .slice none 0 0, .slice none 0 0, .int .i64 0, .int .i64 0, .int .i64 0, .int .i64 0, .int .i64 0, .int .i64 0, .int .i64 0] 81)).trans (hv4.mono (P3.alloc P3.size (.cells #[.slice none 0 0, .slice none 0 0, .slice none 0 0, .int .i64 0, .int .i64 0, .int .i64 0, .int .i64 0, .int .i64 0, .int .i64 0, .int .i64 0] 81)).size); have HZ := Lib.hid (heap_kept (w := u3.alloc (.cells #[.slice none 0 0, .slice none 0 0, .slice none 0 0, .int .i64 0, .int .i64 0, .int .i64 0, .int .i64 0, .int .i64 0, .int .i64 0, .int .i64 0] 81)) (heap_alloc_new u3 (.cells #[.slice none 0 0, .slice none 0 0, .slice none 0 0, .int .i64 0, .int .i64 0, .int .i64 0, .int .i64 0, .int .i64 0, .int .i64 0, .int .i64 0] 81)) hv4)))) | (go_at_call 33; refine (rectangle_any x0 y0 x1 y1 _).mono ?_; rintro e u5 ⟨rfl, hv5⟩; (first | replace HO1 := Lib.hid (ownsRow_below HO1.out hv5) | replace HO1 := Lib.hid (ownsRow_below (HO1.out.alloc _) hv5)); (first | replace HO2 := Lib.hid (ownsRow_below HO2.out hv5) | replace HO2 := Lib.hid (ownsRow_below (HO2.out.alloc _) hv5)); (first | replace HO3 := Lib.hid (ownsRow_below HO3.out hv5) | replace HO3 := Lib.hid (ownsRow_below (HO3.out.alloc _) hv5)); (first | (have P5 : Below W0.heap.size W0 u5 := P4.trans (hv5.mono P4.size); (try (replace HZ := Lib.hid (heap_kept HZ.out hv5)))) | (have P5 : Below W0.heap.size W0 u5 := (P4.alloc P4.size (.cells #[.slice none 0 0, .slice none 0 0, .slice none 0 0, .int .i64 0, .int .i64 0, .int .i64 0, .int .i64 0, .int .i64 0, .int .i64 0, .int .i64 0] 81)).trans (hv5.mono (P4.alloc P4.size (.cells #[.slice none 0 0, .slice none 0 0, .slice none 0 0, .int .i64 0, .int .i64 0, .int .i64 0, .int .i64 0, .int .i64 0, .int .i64 0, .int .i64 0] 81)).size); have HZ := Lib.hid (heap_kept (w := u4.alloc (.cells #[.slice none 0 0, .slice none 0 0, .slice none 0 0, .int .i64 0, .int .i64 0, .int .i64 0, .int .i64 0, .int .i64 0, .int .i64 0, .int .i64 0] 81)) (heap_alloc_new u4 (.cells #[.slice none 0 0, .slice none 0 0, .slice none 0 0, .int .i64 0, .int .i64 0, .int .i64 0, .int .i64 0, .int .i64 0, .int .i64 0, .int .i64 0] 81)) hv5))); (first | (have _h := HZ; go_must (have zc0 := row_cell (i := 0) (v := .slice none 0 0) HZ.out rfl; have zf0 := frozen_of_row _ _ 0 _ _ HZ.out; have zc1 := row_cell (i := 1) (v := .slice none 0 0) HZ.out rfl; have zf1 := frozen_of_row _ _ 1 _ _ HZ.out; have zc2 := row_cell (i := 2) (v := .slice none 0 0) HZ.out rfl; have zf2 := frozen_of_row _ _ 2 _ _ HZ.out; have zc3 := row_cell (i := 3) (v := .int .i64 0) HZ.out rfl; have zf3 := frozen_of_row _ _ 3 _ _ HZ.out; have zc4 := row_cell (i := 4) (v := .int .i64 0) HZ.out rfl; have zf4 := frozen_of_row _ _ 4 _ _ HZ.out; have zc5 := row_cell (i := 5) (v := .int .i64 0) HZ.out rfl; have zf5 := frozen_of_row _ _ 5 _ _ HZ.out; have zc6 := row_cell (i := 6) (v := .int .i64 0) HZ.out rfl; have zf6 := frozen_of_row _ _ 6 _ _ HZ.out; have zc7 := row_cell (i := 7) (v := .int .i64 0) HZ.out rfl; have zf7 := frozen_of_row _ _ 7 _ _ HZ.out; have zc8 := row_cell (i := 8) (v := .int .i64 0) HZ.out rfl; have zf8 := frozen_of_row _ _ 8 _ _ HZ.out; have zc9 := row_cell (i := 9) (v := .int .i64 0) HZ.out rfl; have zf9 := frozen_of_row _ _ 9 _ _ HZ.out)) | skip)))
    all_goals
      go_wp2_with fail
      go_meet
      first
        | ((with_reducible have _ck : Hid (u5.heap[W0.heap.size]? = some (.cells #[.slice none 0 0, .slice none 0 0, .slice none 0 0, .int .i64 0, .int .i64 0, .int .i64 0, .int .i64 0, .int .i64 0, .int .i64 0, .int .i64 0] 81 (0, 0))) := HZ); exact ⟨W0.heap.size, B1, B2, B3, e1, e2, e3, rfl, Nat.le_refl _, sets10_below P5 (Nat.le_refl _), sets10 HZ.out, sets10_own HO1.out HZ.out (by decide), sets10_own HO2.out HZ.out (by decide), sets10_own HO3.out HZ.out (by decide)⟩)
        | ((with_reducible have _ck : Hid (u5.heap[u1.heap.size]? = some (.cells #[.slice none 0 0, .slice none 0 0, .slice none 0 0, .int .i64 0, .int .i64 0, .int .i64 0, .int .i64 0, .int .i64 0, .int .i64 0, .int .i64 0] 81 (0, 0))) := HZ); exact ⟨u1.heap.size, B1, B2, B3, e1, e2, e3, rfl, P1.size, sets10_below P5 P1.size, sets10 HZ.out, sets10_own HO1.out HZ.out (by decide), sets10_own HO2.out HZ.out (by decide), sets10_own HO3.out HZ.out (by decide)⟩)
        | ((with_reducible have _ck : Hid (u5.heap[u2.heap.size]? = some (.cells #[.slice none 0 0, .slice none 0 0, .slice none 0 0, .int .i64 0, .int .i64 0, .int .i64 0, .int .i64 0, .int .i64 0, .int .i64 0, .int .i64 0] 81 (0, 0))) := HZ); exact ⟨u2.heap.size, B1, B2, B3, e1, e2, e3, rfl, P2.size, sets10_below P5 P2.size, sets10 HZ.out, sets10_own HO1.out HZ.out (by decide), sets10_own HO2.out HZ.out (by decide), sets10_own HO3.out HZ.out (by decide)⟩)
        | ((with_reducible have _ck : Hid (u5.heap[u3.heap.size]? = some (.cells #[.slice none 0 0, .slice none 0 0, .slice none 0 0, .int .i64 0, .int .i64 0, .int .i64 0, .int .i64 0, .int .i64 0, .int .i64 0, .int .i64 0] 81 (0, 0))) := HZ); exact ⟨u3.heap.size, B1, B2, B3, e1, e2, e3, rfl, P3.size, sets10_below P5 P3.size, sets10 HZ.out, sets10_own HO1.out HZ.out (by decide), sets10_own HO2.out HZ.out (by decide), sets10_own HO3.out HZ.out (by decide)⟩)
        | ((with_reducible have _ck : Hid (u5.heap[u4.heap.size]? = some (.cells #[.slice none 0 0, .slice none 0 0, .slice none 0 0, .int .i64 0, .int .i64 0, .int .i64 0, .int .i64 0, .int .i64 0, .int .i64 0, .int .i64 0] 81 (0, 0))) := HZ); exact ⟨u4.heap.size, B1, B2, B3, e1, e2, e3, rfl, P4.size, sets10_below P5 P4.size, sets10 HZ.out, sets10_own HO1.out HZ.out (by decide), sets10_own HO2.out HZ.out (by decide), sets10_own HO3.out HZ.out (by decide)⟩)
        | exact ⟨u5.heap.size, B1, B2, B3, e1, e2, e3, rfl, P5.size, P5.alloc P5.size _, heap_alloc_new _ _, HO1.out.alloc _, HO2.out.alloc _, HO3.out.alloc _⟩
  case rest =>
    clear TOS P0 P0a
    obtain ⟨bc, B1, B2, B3, e1, e2, e3, rfl, hbc, hBm, HBC, HO1', HO2', HO3'⟩ := hcut
    have HO1 := Lib.hid HO1'
    clear HO1'
    have HO2 := Lib.hid HO2'
    clear HO2'
    have HO3 := Lib.hid HO3'
    clear HO3'
    replace D0 := cell_kept D0 hBm
    replace D1 := cell_kept D1 hBm
    replace D2 := cell_kept D2 hBm
    replace D3 := cell_kept D3 hBm
    replace D4 := cell_kept D4 hBm
    replace D5 := cell_kept D5 hBm
    replace D6 := cell_kept D6 hBm
    replace D7 := cell_kept D7 hBm
    replace D8 := cell_kept D8 hBm
    replace D9 := cell_kept D9 hBm
    replace D10 := cell_kept D10 hBm
    replace D11 := cell_kept D11 hBm
    replace HR1 := Lib.hid (HR1.out.below hBm)
    replace HR2 := Lib.hid (HR2.out.below hBm)
    replace HR3 := Lib.hid (HR3.out.below hBm)
    replace HR4 := Lib.hid (HR4.out.below hBm)
    replace hB := hB.trans (hBm.mono hB.size)
    clear hbc
    have cc0 : wc.cell? ⟨bc, 0, none⟩ = some (.slice B1 z1.length e1) := cell_of_row _ _ 0 _ _ _ HBC
    have cc1 : wc.cell? ⟨bc, 1, none⟩ = some (.slice B2 z2.length e2) := cell_of_row _ _ 1 _ _ _ HBC
    have cc2 : wc.cell? ⟨bc, 2, none⟩ = some (.slice B3 z3.length e3) := cell_of_row _ _ 2 _ _ _ HBC
    have cc3 : wc.cell? ⟨bc, 3, none⟩ = some (.int .i64 ys) := cell_of_row _ _ 3 _ _ _ HBC
    have cc4 : wc.cell? ⟨bc, 4, none⟩ = some (.int .i64 cs) := cell_of_row _ _ 4 _ _ _ HBC
    have cc5 : wc.cell? ⟨bc, 5, none⟩ = some (.int .i64 rt) := cell_of_row _ _ 5 _ _ _ HBC
    have cc6 : wc.cell? ⟨bc, 6, none⟩ = some (.int .i64 x0) := cell_of_row _ _ 6 _ _ _ HBC
    have cc7 : wc.cell? ⟨bc, 7, none⟩ = some (.int .i64 y0) := cell_of_row _ _ 7 _ _ _ HBC
    have cc8 : wc.cell? ⟨bc, 8, none⟩ = some (.int .i64 x1) := cell_of_row _ _ 8 _ _ _ HBC
    have cc9 : wc.cell? ⟨bc, 9, none⟩ = some (.int .i64 y1) := cell_of_row _ _ 9 _ _ _ HBC
    clear HBC
    have P0 : Below wc.heap.size wc wc.drew := (Below.refl _ _).drew
    have toS : ∀ W' : World, Below wc.heap.size wc W' → (W'.cell? ⟨w.heap.size, 0, none⟩ = some (.int .i64 x0) ∧ W'.cell? ⟨w.heap.size, 1, none⟩ = some (.int .i64 y0) ∧ W'.cell? ⟨w.heap.size, 2, none⟩ = some (.int .i64 x1) ∧ W'.cell? ⟨w.heap.size, 3, none⟩ = some (.int .i64 y1) ∧ W'.cell? ⟨w.heap.size, 4, none⟩ = some (.int .i64 rt) ∧ W'.cell? ⟨w.heap.size, 5, none⟩ = some (.int .i64 ys) ∧ W'.cell? ⟨w.heap.size, 6, none⟩ = some (.int .i64 cs) ∧ W'.cell? ⟨w.heap.size, 7, none⟩ = some (.int .i64 at4) ∧ W'.cell? ⟨w.heap.size, 8, none⟩ = some (.slice A1 z1.length c1) ∧ W'.cell? ⟨w.heap.size, 9, none⟩ = some (.slice A2 z2.length c2) ∧ W'.cell? ⟨w.heap.size, 10, none⟩ = some (.slice A3 z3.length c3) ∧ W'.cell? ⟨w.heap.size, 11, none⟩ = some (.slice A4 z4.length c4) ∧ W'.cell? ⟨bc, 0, none⟩ = some (.slice B1 z1.length e1) ∧ W'.cell? ⟨bc, 1, none⟩ = some (.slice B2 z2.length e2) ∧ W'.cell? ⟨bc, 2, none⟩ = some (.slice B3 z3.length e3) ∧ W'.cell? ⟨bc, 3, none⟩ = some (.int .i64 ys) ∧ W'.cell? ⟨bc, 4, none⟩ = some (.int .i64 cs) ∧ W'.cell? ⟨bc, 5, none⟩ = some (.int .i64 rt) ∧ W'.cell? ⟨bc, 6, none⟩ = some (.int .i64 x0) ∧ W'.cell? ⟨bc, 7, none⟩ = some (.int .i64 y0) ∧ W'.cell? ⟨bc, 8, none⟩ = some (.int .i64 x1) ∧ W'.cell? ⟨bc, 9, none⟩ = some (.int .i64 y1)) := fun W' h => ⟨cell_kept D0 h, cell_kept D1 h, cell_kept D2 h, cell_kept D3 h, cell_kept D4 h, cell_kept D5 h, cell_kept D6 h, cell_kept D7 h, cell_kept D8 h, cell_kept D9 h, cell_kept D10 h, cell_kept D11 h, cell_kept cc0 h, cell_kept cc1 h, cell_kept cc2 h, cell_kept cc3 h, cell_kept cc4 h, cell_kept cc5 h, cell_kept cc6 h, cell_kept cc7 h, cell_kept cc8 h, cell_kept cc9 h⟩
    have TOS := Lib.hid toS
    clear toS
    go_wp2_with fail
    go_region_held3 (fun w' => w'.cell? ⟨w.heap.size, 0, none⟩ = some (.int .i64 x0) ∧ w'.cell? ⟨w.heap.size, 1, none⟩ = some (.int .i64 y0) ∧ w'.cell? ⟨w.heap.size, 2, none⟩ = some (.int .i64 x1) ∧ w'.cell? ⟨w.heap.size, 3, none⟩ = some (.int .i64 y1) ∧ w'.cell? ⟨w.heap.size, 4, none⟩ = some (.int .i64 rt) ∧ w'.cell? ⟨w.heap.size, 5, none⟩ = some (.int .i64 ys) ∧ w'.cell? ⟨w.heap.size, 6, none⟩ = some (.int .i64 cs) ∧ w'.cell? ⟨w.heap.size, 7, none⟩ = some (.int .i64 at4) ∧ w'.cell? ⟨w.heap.size, 8, none⟩ = some (.slice A1 z1.length c1) ∧ w'.cell? ⟨w.heap.size, 9, none⟩ = some (.slice A2 z2.length c2) ∧ w'.cell? ⟨w.heap.size, 10, none⟩ = some (.slice A3 z3.length c3) ∧ w'.cell? ⟨w.heap.size, 11, none⟩ = some (.slice A4 z4.length c4) ∧ w'.cell? ⟨bc, 0, none⟩ = some (.slice B1 z1.length e1) ∧ w'.cell? ⟨bc, 1, none⟩ = some (.slice B2 z2.length e2) ∧ w'.cell? ⟨bc, 2, none⟩ = some (.slice B3 z3.length e3) ∧ w'.cell? ⟨bc, 3, none⟩ = some (.int .i64 ys) ∧ w'.cell? ⟨bc, 4, none⟩ = some (.int .i64 cs) ∧ w'.cell? ⟨bc, 5, none⟩ = some (.int .i64 rt) ∧ w'.cell? ⟨bc, 6, none⟩ = some (.int .i64 x0) ∧ w'.cell? ⟨bc, 7, none⟩ = some (.int .i64 y0) ∧ w'.cell? ⟨bc, 8, none⟩ = some (.int .i64 x1) ∧ w'.cell? ⟨bc, 9, none⟩ = some (.int .i64 y1))
      ((refine TOS.out _ ?_; first | with_reducible exact P1 | with_reducible exact P1.alloc P1.size _ | with_reducible exact P0))
      (first | (go_at_call 45; refine (bytesOf_any A4 c4 z4 _ ?_ hl4 hn4.out).mono ?_; exact HR4.out.below P0; rintro e u1 ⟨B4, e4, rfl, ho4, hv1⟩; have P1 : Below wc.heap.size wc u1 := P0.trans (hv1.mono P0.size); have HO4 := Lib.hid (ownsRow_base (base := w.heap.size) ho4 (Nat.le_trans hB.size P0.size)); clear ho4))
    go_wp2
    go_ret
    exact ⟨u1.heap.size, B1, B2, B3, B4, e1, e2, e3, e4, rfl, Nat.le_trans hB.size P1.size, heap_alloc_new _ _, (ownsRow_base (ownsRow_below HO1.out P1) hsz0).alloc _, (ownsRow_base (ownsRow_below HO2.out P1) hsz0).alloc _, (ownsRow_base (ownsRow_below HO3.out P1) hsz0).alloc _, HO4.out.alloc _, (hB.trans (P1.mono hB.size)).alloc (Nat.le_trans hB.size P1.size) _⟩

end Go.Proofs.Ytcomldkihibfjaa
