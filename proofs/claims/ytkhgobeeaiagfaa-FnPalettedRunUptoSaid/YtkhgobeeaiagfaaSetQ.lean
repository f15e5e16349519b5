/- Plates: SetColorIndex, impl.PalettedSet. -/
import Derived.Test.YtkhgobeeaiagfaaSame
import Derived.Test.YtkhgobeeaiagfaaIndex
namespace Go.Proofs.Ytkhgobeeaiagfaa
open Go.RowKit
set_option linter.unusedVariables false
set_option linter.unusedSimpArgs false

theorem set_other {u : World} {X g i j : Nat} {b v : Value} (hne : g ≠ X) (h : u.cell? ⟨g, j, none⟩ = some v) : (u.setCell ⟨X, i, none⟩ b).cell? ⟨g, j, none⟩ = some v :=
  (World.cell?_setCell_other u _ _ b (fun e => hne (by injection e with e; exact e.symm))).trans h
theorem take_set1 {ms : Array Value} {zs : List Int} {n k : Nat} {v : Int} (h : ms.toList.take n = zs.map (Value.int .u8)) : (ms.setIfInBounds k (.int .u8 v)).toList.take n = (zs.set k v).map (Value.int .u8) := by
  rw [List.map_set, Array.toList_setIfInBounds, List.take_set, h]
theorem own_set1 {w w' : World} {base b n c m : Nat} {ms : Array Value} {zs : List Int} {v : Int} (h : w.ownsRow base 5 1 (.slice (some ⟨b, 0, none⟩) n c) n (zs.map (Value.int .u8)))
    (hb : w.heap[b]? = some (.cells ms 5 (0, 0))) (hb' : w'.heap[b]? = some (.cells (ms.setIfInBounds m (.int .u8 v)) 5 (0, 0))) : w'.ownsRow base 5 1 (.slice (some ⟨b, 0, none⟩) n c) n ((zs.set m v).map (Value.int .u8)) := by
  obtain ⟨h1, h2⟩ := h
  refine ⟨by simpa using h1, ?_⟩
  rcases h2 with ⟨hv, _⟩ | ⟨g, cap, cur, hv, hg, hh, hnc, hcm, hsz, htk⟩
  · cases hv
  · injection hv with e1 e2 e3
    injection e1 with e1
    injection e1 with e1
    subst e1 e3
    rw [hb] at hh
    injection hh with hh
    injection hh with hh
    subst hh
    exact Or.inr ⟨b, c, ms.setIfInBounds m (.int .u8 v), rfl, hg, hb', hnc, hcm, by simpa using hsz, by simpa using take_set1 (by simpa using htk)⟩
theorem getD_set (zs : List Int) (m : Nat) (v : Int) (h : m < zs.length) : (zs.set m v).getD m 0 = v := by
  rw [List.getD_eq_getElem?_getD, List.getElem?_set]; simp [h]

set_option maxRecDepth 100000 in
set_option maxHeartbeats 2000000 in
theorem setM_out (g : Nat) (x0 y0 x1 y1 s : Int) (A : Option Addr) (c : Nat) (zs : List Int) (B : Option Addr) (k : Nat) (ps : List (Int × Int × Int × Int)) (x y v : Int) (w : World) (hg : w.heap[g]? = some (.cells #[.slice A zs.length c, .int .i64 s, .int .i64 x0, .int .i64 y0, .int .i64 x1, .int .i64 y1, .slice B ps.length k] 94 (0, 0))) (hI : Hid (¬ Insd x0 y0 x1 y1 x y)) :
    Calls Try.prog 48 #[.pointer (some ⟨g, 0, none⟩), .int .i64 x, .int .i64 y, .int .u8 v] w fun e w' => e = .returned (.tuple #[]) ∧ Below w.heap.size w w' := by
  have g0 := row_cell (i := 0) (v := .slice A zs.length c) hg rfl
  have g1 := row_cell (i := 1) (v := .int .i64 s) hg rfl
  have g2 := row_cell (i := 2) (v := .int .i64 x0) hg rfl
  have g3 := row_cell (i := 3) (v := .int .i64 y0) hg rfl
  have g4 := row_cell (i := 4) (v := .int .i64 x1) hg rfl
  have g5 := row_cell (i := 5) (v := .int .i64 y1) hg rfl
  have g6 := row_cell (i := 6) (v := .slice B ps.length k) hg rfl
  clear hg
  go_enter Try.func48, Try.ntmps48
  go_wp2_with fail
  refine (in_any x0 y0 x1 y1 x y false (by simp [hI.out]) _).mono ?_
  rintro e w1 ⟨rfl, hb1⟩
  go_wp2
  exact bodyPost_ret (v := .tuple #[]) (by simp [results, Try.results48, go_sem]) rfl ⟨rfl, hb1⟩
set_option maxRecDepth 100000 in
set_option maxHeartbeats 2000000 in
theorem setM_in (g b o n c k m : Nat) (ms : Array Value) (x0 y0 x1 y1 s : Int) (B : Option Addr) (ps : List (Int × Int × Int × Int)) (x y v : Int) (w : World) (hg : w.heap[g]? = some (.cells #[.slice (some ⟨b, o, none⟩) n c, .int .i64 s, .int .i64 x0, .int .i64 y0, .int .i64 x1, .int .i64 y1, .slice B ps.length k] 94 (0, 0)))
    (hb : w.heap[b]? = some (.cells ms 5 (0, 0))) (hsz : o + n ≤ ms.size) (hI : Hid (Insd x0 y0 x1 y1 x y)) (b1 : -4398046511104 ≤ y - y0) (b2 : y - y0 ≤ 4398046511104) (b3 : -4398046511104 ≤ x - x0) (b4 : x - x0 ≤ 4398046511104) (p1 : -2305843009213693952 ≤ (y - y0) * s) (p2 : (y - y0) * s ≤ 2305843009213693952) (HK : Hid ((y - y0) * s + (x - x0) = m)) (hk : (m : Int) < n) :
    Calls Try.prog 48 #[.pointer (some ⟨g, 0, none⟩), .int .i64 x, .int .i64 y, .int .u8 v] w fun e w' => e = .returned (.tuple #[]) ∧ w'.heap[b]? = some (.cells (ms.setIfInBounds (o + m) (.int .u8 v)) 5 (0, 0)) ∧ w.grownBy w' (some b) := by
  have hgb := block_ne hg hb (by decide)
  obtain ⟨u0, hu0⟩ : ∃ u, ms[o + m]? = some u := ⟨_, Array.getElem?_eq_getElem (by omega)⟩
  have c0 : w.cell? ⟨b, o + m, none⟩ = some u0 := (cell_of_row w b _ _ _ _ hb).trans hu0
  have HBK := Lib.hid hb
  have HG := Lib.hid hg
  have g0 := row_cell (i := 0) (v := .slice (some ⟨b, o, none⟩) n c) hg rfl
  have g1 := row_cell (i := 1) (v := .int .i64 s) hg rfl
  have g2 := row_cell (i := 2) (v := .int .i64 x0) hg rfl
  have g3 := row_cell (i := 3) (v := .int .i64 y0) hg rfl
  have g4 := row_cell (i := 4) (v := .int .i64 x1) hg rfl
  have g5 := row_cell (i := 5) (v := .int .i64 y1) hg rfl
  have g6 := row_cell (i := 6) (v := .slice B ps.length k) hg rfl
  clear hg hb hu0
  go_enter Try.func48, Try.ntmps48
  go_wp2_with fail
  refine (in_any x0 y0 x1 y1 x y true (by simp [hI.out]) _).mono ?_
  rintro e w1 ⟨rfl, hb1⟩
  replace c0 := cell_kept c0 hb1
  replace g0 := cell_kept g0 hb1
  have HG1 := Lib.hid (heap_kept HG.out hb1)
  have HB1 := Lib.hid (heap_kept HBK.out hb1)
  have d0 := frozen_of_row w1 b (o + m) _ _ HB1.out
  have GR := Lib.hid (grown_of (row := some b) hb1)
  clear hb1 g1 g2 g3 g4 g5 g6 HG HBK
  go_wp2_with fail
  refine (pixOffset_any g x0 y0 x1 y1 s _ c (List.replicate n 0) B k ps x y _ (by simpa using HG1.out) b1 b2 b3 b4 p1 p2).mono ?_
  rintro e w2 ⟨rfl, q, rfl⟩
  rw [HK.out]
  clear b1 b2 b3 b4 p1 p2 HK HG1 hI
  have i0 : (0 : Int) ≤ (m : Int) := by omega
  have HH : Hid (((w1.drewN q).setCell ⟨b, o + m, none⟩ (.int .u8 v)).heap[b]? = some (.cells (ms.setIfInBounds (o + m) (.int .u8 v)) 5 (0, 0))) := heap_setCell_same _ _ _ _ _ _ HB1.out
  have HGR : Hid (w.grownBy ((w1.drewN q).setCell ⟨b, o + m, none⟩ (.int .u8 v)) (some b)) := grown_setCell (g := b) (p := ⟨b, o + m, none⟩) (grown_drewN GR.out q) (Or.inl rfl) _
  go_wp2
  go_end0
  first | exact ⟨rfl, HH.out, HGR.out⟩ | exact ⟨by simp, HH.out, HGR.out⟩

set_option maxRecDepth 100000 in
set_option maxHeartbeats 2000000 in
theorem implSet_out (x0 y0 x1 y1 s : Int) (A : Option Addr) (c : Nat) (zs : List Int) (B : Option Addr) (k : Nat) (ps : List (Int × Int × Int × Int)) (x y v : Int) (w : World) (hr : Hid (Reads w A zs)) (hl : Small zs) (hn : Hid (A = none → c = 0)) (pr : Hid (PReads w B ps)) (pl : (ps.length : Int) ≤ 2097152) (hI : Hid (¬ Insd x0 y0 x1 y1 x y)) :
    Calls Try.prog 27 #[.agg #[.int .i64 x0, .int .i64 y0, .int .i64 x1, .int .i64 y1, .int .i64 s, .slice A zs.length c, .slice B ps.length k], .int .i64 x, .int .i64 y, .int .u8 v] w (PlateData zs ps s x0 y0 x1 y1 w) := by
  have hB : Below w.heap.size w ((w.alloc (.cells #[.int .i64 x0, .int .i64 y0, .int .i64 x1, .int .i64 y1, .int .i64 s, .slice A zs.length c, .slice B ps.length k] 27)).alloc (.cells #[.int .i64 0, .int .i64 0, .int .i64 0, .int .i64 0, .int .i64 0, .slice none 0 0, .slice none 0 0] 27)) := ((Below.refl _ _).alloc (Nat.le_refl _) _).alloc (by simp) _
  have D0 : ((w.alloc (.cells #[.int .i64 x0, .int .i64 y0, .int .i64 x1, .int .i64 y1, .int .i64 s, .slice A zs.length c, .slice B ps.length k] 27)).alloc (.cells #[.int .i64 0, .int .i64 0, .int .i64 0, .int .i64 0, .int .i64 0, .slice none 0 0, .slice none 0 0] 27)).cell? ⟨w.heap.size, 0, none⟩ = some (.int .i64 x0) := by first | (simp; done) | go_simp
  have D1 : ((w.alloc (.cells #[.int .i64 x0, .int .i64 y0, .int .i64 x1, .int .i64 y1, .int .i64 s, .slice A zs.length c, .slice B ps.length k] 27)).alloc (.cells #[.int .i64 0, .int .i64 0, .int .i64 0, .int .i64 0, .int .i64 0, .slice none 0 0, .slice none 0 0] 27)).cell? ⟨w.heap.size, 1, none⟩ = some (.int .i64 y0) := by first | (simp; done) | go_simp
  have D2 : ((w.alloc (.cells #[.int .i64 x0, .int .i64 y0, .int .i64 x1, .int .i64 y1, .int .i64 s, .slice A zs.length c, .slice B ps.length k] 27)).alloc (.cells #[.int .i64 0, .int .i64 0, .int .i64 0, .int .i64 0, .int .i64 0, .slice none 0 0, .slice none 0 0] 27)).cell? ⟨w.heap.size, 2, none⟩ = some (.int .i64 x1) := by first | (simp; done) | go_simp
  have D3 : ((w.alloc (.cells #[.int .i64 x0, .int .i64 y0, .int .i64 x1, .int .i64 y1, .int .i64 s, .slice A zs.length c, .slice B ps.length k] 27)).alloc (.cells #[.int .i64 0, .int .i64 0, .int .i64 0, .int .i64 0, .int .i64 0, .slice none 0 0, .slice none 0 0] 27)).cell? ⟨w.heap.size, 3, none⟩ = some (.int .i64 y1) := by first | (simp; done) | go_simp
  have D4 : ((w.alloc (.cells #[.int .i64 x0, .int .i64 y0, .int .i64 x1, .int .i64 y1, .int .i64 s, .slice A zs.length c, .slice B ps.length k] 27)).alloc (.cells #[.int .i64 0, .int .i64 0, .int .i64 0, .int .i64 0, .int .i64 0, .slice none 0 0, .slice none 0 0] 27)).cell? ⟨w.heap.size, 4, none⟩ = some (.int .i64 s) := by first | (simp; done) | go_simp
  have D5 : ((w.alloc (.cells #[.int .i64 x0, .int .i64 y0, .int .i64 x1, .int .i64 y1, .int .i64 s, .slice A zs.length c, .slice B ps.length k] 27)).alloc (.cells #[.int .i64 0, .int .i64 0, .int .i64 0, .int .i64 0, .int .i64 0, .slice none 0 0, .slice none 0 0] 27)).cell? ⟨w.heap.size, 5, none⟩ = some (.slice A zs.length c) := by first | (simp; done) | go_simp
  have D6 : ((w.alloc (.cells #[.int .i64 x0, .int .i64 y0, .int .i64 x1, .int .i64 y1, .int .i64 s, .slice A zs.length c, .slice B ps.length k] 27)).alloc (.cells #[.int .i64 0, .int .i64 0, .int .i64 0, .int .i64 0, .int .i64 0, .slice none 0 0, .slice none 0 0] 27)).cell? ⟨w.heap.size, 6, none⟩ = some (.slice B ps.length k) := by first | (simp; done) | go_simp
  have HZ : Hid (((w.alloc (.cells #[.int .i64 x0, .int .i64 y0, .int .i64 x1, .int .i64 y1, .int .i64 s, .slice A zs.length c, .slice B ps.length k] 27)).alloc (.cells #[.int .i64 0, .int .i64 0, .int .i64 0, .int .i64 0, .int .i64 0, .slice none 0 0, .slice none 0 0] 27)).heap[w.heap.size + 1]? = some (.cells #[.int .i64 0, .int .i64 0, .int .i64 0, .int .i64 0, .int .i64 0, .slice none 0 0, .slice none 0 0] 27 (0, 0))) := by
    have h := heap_alloc_new (w.alloc (.cells #[.int .i64 x0, .int .i64 y0, .int .i64 x1, .int .i64 y1, .int .i64 s, .slice A zs.length c, .slice B ps.length k] 27)) (.cells #[.int .i64 0, .int .i64 0, .int .i64 0, .int .i64 0, .int .i64 0, .slice none 0 0, .slice none 0 0] 27)
    rw [show (w.alloc (.cells #[.int .i64 x0, .int .i64 y0, .int .i64 x1, .int .i64 y1, .int .i64 s, .slice A zs.length c, .slice B ps.length k] 27)).heap.size = w.heap.size + 1 by simp] at h
    exact h
  have HR := Lib.hid (hr.out.below hB)
  have HP := Lib.hid (pr.out.below hB)
  have hbo : w.heap.size ≤ w.heap.size + 1 := by omega
  go_enter Try.func27, Try.ntmps27
  go_wp2_with fail
  generalize (w.alloc (.cells #[.int .i64 x0, .int .i64 y0, .int .i64 x1, .int .i64 y1, .int .i64 s, .slice A zs.length c, .slice B ps.length k] 27)).alloc (.cells #[.int .i64 0, .int .i64 0, .int .i64 0, .int .i64 0, .int .i64 0, .slice none 0 0, .slice none 0 0] 27) = W0 at *
  generalize w.heap.size + 1 = bo at *
  have hsW : w.heap.size ≤ W0.heap.size := hB.size
  refine (to_any x0 y0 x1 y1 s A c zs B k ps _ HR hl hn HP pl).mono ?_
  rintro e w1 ⟨g, A', c', B', k', rfl, hgb, hg, ho, hi, hb1⟩
  have HG := Lib.hid hg
  have HO := Lib.hid ho
  have HI := Lib.hid hi
  clear hg ho hi
  replace D0 := cell_kept D0 hb1
  replace D1 := cell_kept D1 hb1
  replace D2 := cell_kept D2 hb1
  replace D3 := cell_kept D3 hb1
  replace D4 := cell_kept D4 hb1
  replace D5 := cell_kept D5 hb1
  replace D6 := cell_kept D6 hb1
  replace HR := Lib.hid (HR.out.below hb1)
  replace HP := Lib.hid (HP.out.below hb1)
  replace HZ := Lib.hid (heap_kept HZ.out hb1)
  replace hB := hB.trans (hb1.mono hB.size)
  clear hb1
  clear D0 D1 D2 D3 D4 D5 D6
  clear HR HP
  go_wp2_with fail
  refine (setM_out g x0 y0 x1 y1 s A' c' zs B' k' ps x y v _ HG.out hI).mono ?_
  rintro e w2 ⟨rfl, hb2⟩
  replace HZ := Lib.hid (heap_kept HZ.out hb2)
  replace HG := Lib.hid (heap_kept HG.out hb2)
  replace HO := Lib.hid (ownsRow_below HO.out hb2)
  replace HI := Lib.hid (ownsRow_below HI.out hb2)
  replace hB := hB.trans (hb2.mono hB.size)
  clear hb2
  have HRr := Lib.hid (Reads.of_own HO.out)
  have HNr := Lib.hid (own_nil HO.out)
  have HIr := Lib.hid (IReads.of_own HI.out)
  have hl' := hl
  have hz3 : w.heap.size ≤ w2.heap.size := hB.size
  go_wp2_with fail
  refine (of_any g x0 y0 x1 y1 s _ c' zs B' k' ps _ HG.out HRr hl' HNr HIr pl).mono ?_
  rintro e w3 ⟨E1, f1, E2, f2, rfl, hw1, hw2, hb3⟩
  replace HZ := Lib.hid (heap_kept HZ.out hb3)
  replace hB := hB.trans (hb3.mono hB.size)
  clear hb3
  have zc0 := row_cell (i := 0) (v := .int .i64 0) HZ.out rfl
  have zc1 := row_cell (i := 1) (v := .int .i64 0) HZ.out rfl
  have zc2 := row_cell (i := 2) (v := .int .i64 0) HZ.out rfl
  have zc3 := row_cell (i := 3) (v := .int .i64 0) HZ.out rfl
  have zc4 := row_cell (i := 4) (v := .int .i64 0) HZ.out rfl
  have zc5 := row_cell (i := 5) (v := .slice none 0 0) HZ.out rfl
  have zc6 := row_cell (i := 6) (v := .slice none 0 0) HZ.out rfl
  have zf0 := frozen_of_row _ _ 0 _ _ HZ.out
  have zf1 := frozen_of_row _ _ 1 _ _ HZ.out
  have zf2 := frozen_of_row _ _ 2 _ _ HZ.out
  have zf3 := frozen_of_row _ _ 3 _ _ HZ.out
  have zf4 := frozen_of_row _ _ 4 _ _ HZ.out
  have zf5 := frozen_of_row _ _ 5 _ _ HZ.out
  have zf6 := frozen_of_row _ _ 6 _ _ HZ.out
  go_wp2_with fail
  clear zc0 zf0 zc1 zf1 zc2 zf2 zc3 zf3 zc4 zf4 zc5 zf5 zc6 zf6
  have HF : Hid ((((((((w3.setCell ⟨bo, 0, none⟩ (.int .i64 x0)).setCell ⟨bo, 1, none⟩ (.int .i64 y0)).setCell ⟨bo, 2, none⟩ (.int .i64 x1)).setCell ⟨bo, 3, none⟩ (.int .i64 y1)).setCell ⟨bo, 4, none⟩ (.int .i64 s)).setCell ⟨bo, 5, none⟩ (.slice E1 zs.length f1)).setCell ⟨bo, 6, none⟩ (.slice E2 ps.length f2)).heap[bo]? = some (.cells #[.int .i64 x0, .int .i64 y0, .int .i64 x1, .int .i64 y1, .int .i64 s, .slice E1 zs.length f1, .slice E2 ps.length f2] 27 (0, 0))) := sets7 HZ.out
  have HBx : Below w.heap.size w (((((((w3.setCell ⟨bo, 0, none⟩ (.int .i64 x0)).setCell ⟨bo, 1, none⟩ (.int .i64 y0)).setCell ⟨bo, 2, none⟩ (.int .i64 x1)).setCell ⟨bo, 3, none⟩ (.int .i64 y1)).setCell ⟨bo, 4, none⟩ (.int .i64 s)).setCell ⟨bo, 5, none⟩ (.slice E1 zs.length f1)).setCell ⟨bo, 6, none⟩ (.slice E2 ps.length f2)) := sets7_below hB hbo
  have HW1 : Hid ((((((((w3.setCell ⟨bo, 0, none⟩ (.int .i64 x0)).setCell ⟨bo, 1, none⟩ (.int .i64 y0)).setCell ⟨bo, 2, none⟩ (.int .i64 x1)).setCell ⟨bo, 3, none⟩ (.int .i64 y1)).setCell ⟨bo, 4, none⟩ (.int .i64 s)).setCell ⟨bo, 5, none⟩ (.slice E1 zs.length f1)).setCell ⟨bo, 6, none⟩ (.slice E2 ps.length f2)).ownsRow w.heap.size 5 1 (.slice E1 zs.length f1) zs.length (zs.map (Value.int .u8))) := sets7_own (ownsRow_base hw1 hz3) HZ.out (by decide)
  have HW2 : Hid (POwn (((((((w3.setCell ⟨bo, 0, none⟩ (.int .i64 x0)).setCell ⟨bo, 1, none⟩ (.int .i64 y0)).setCell ⟨bo, 2, none⟩ (.int .i64 x1)).setCell ⟨bo, 3, none⟩ (.int .i64 y1)).setCell ⟨bo, 4, none⟩ (.int .i64 s)).setCell ⟨bo, 5, none⟩ (.slice E1 zs.length f1)).setCell ⟨bo, 6, none⟩ (.slice E2 ps.length f2)) w.heap.size E2 f2 ps) := sets7_own (ownsRow_base hw2 hz3) HZ.out (by decide)
  generalize (((((((w3.setCell ⟨bo, 0, none⟩ (.int .i64 x0)).setCell ⟨bo, 1, none⟩ (.int .i64 y0)).setCell ⟨bo, 2, none⟩ (.int .i64 x1)).setCell ⟨bo, 3, none⟩ (.int .i64 y1)).setCell ⟨bo, 4, none⟩ (.int .i64 s)).setCell ⟨bo, 5, none⟩ (.slice E1 zs.length f1)).setCell ⟨bo, 6, none⟩ (.slice E2 ps.length f2)) = wz at *
  clear hw1 hw2
  have r0 := row_cell (i := 0) (v := .int .i64 x0) HF.out rfl
  have r1 := row_cell (i := 1) (v := .int .i64 y0) HF.out rfl
  have r2 := row_cell (i := 2) (v := .int .i64 x1) HF.out rfl
  have r3 := row_cell (i := 3) (v := .int .i64 y1) HF.out rfl
  have r4 := row_cell (i := 4) (v := .int .i64 s) HF.out rfl
  have r5 := row_cell (i := 5) (v := .slice E1 zs.length f1) HF.out rfl
  have r6 := row_cell (i := 6) (v := .slice E2 ps.length f2) HF.out rfl
  go_wp2
  exact bodyPost_ret (v := .agg #[.int .i64 x0, .int .i64 y0, .int .i64 x1, .int .i64 y1, .int .i64 s, .slice E1 zs.length f1, .slice E2 ps.length f2]) (by simp [results, Try.results27, go_sem, r0, r1, r2, r3, r4, r5, r6]) rfl ⟨E1, f1, E2, f2, rfl, HW1.out, HW2.out, HBx⟩

set_option maxRecDepth 100000 in
set_option maxHeartbeats 2000000 in
theorem implSet_in (x0 y0 x1 y1 s : Int) (A : Option Addr) (c : Nat) (zs : List Int) (B : Option Addr) (k : Nat) (ps : List (Int × Int × Int × Int)) (x y v : Int) (w : World) (hr : Hid (Reads w A zs)) (hl : Small zs) (hn : Hid (A = none → c = 0)) (pr : Hid (PReads w B ps)) (pl : (ps.length : Int) ≤ 2097152) (m : Nat) (hI : Hid (Insd x0 y0 x1 y1 x y)) (b1 : -4398046511104 ≤ y - y0) (b2 : y - y0 ≤ 4398046511104) (b3 : -4398046511104 ≤ x - x0) (b4 : x - x0 ≤ 4398046511104) (p1 : -2305843009213693952 ≤ (y - y0) * s) (p2 : (y - y0) * s ≤ 2305843009213693952) (HK : Hid ((y - y0) * s + (x - x0) = m)) (hk : m < zs.length) (z2 : List Int) (HZ2 : Hid (zs.set m v = z2)) :
    Calls Try.prog 27 #[.agg #[.int .i64 x0, .int .i64 y0, .int .i64 x1, .int .i64 y1, .int .i64 s, .slice A zs.length c, .slice B ps.length k], .int .i64 x, .int .i64 y, .int .u8 v] w (PlateData z2 ps s x0 y0 x1 y1 w) := by
  have hB : Below w.heap.size w ((w.alloc (.cells #[.int .i64 x0, .int .i64 y0, .int .i64 x1, .int .i64 y1, .int .i64 s, .slice A zs.length c, .slice B ps.length k] 27)).alloc (.cells #[.int .i64 0, .int .i64 0, .int .i64 0, .int .i64 0, .int .i64 0, .slice none 0 0, .slice none 0 0] 27)) := ((Below.refl _ _).alloc (Nat.le_refl _) _).alloc (by simp) _
  have D0 : ((w.alloc (.cells #[.int .i64 x0, .int .i64 y0, .int .i64 x1, .int .i64 y1, .int .i64 s, .slice A zs.length c, .slice B ps.length k] 27)).alloc (.cells #[.int .i64 0, .int .i64 0, .int .i64 0, .int .i64 0, .int .i64 0, .slice none 0 0, .slice none 0 0] 27)).cell? ⟨w.heap.size, 0, none⟩ = some (.int .i64 x0) := by first | (simp; done) | go_simp
  have D1 : ((w.alloc (.cells #[.int .i64 x0, .int .i64 y0, .int .i64 x1, .int .i64 y1, .int .i64 s, .slice A zs.length c, .slice B ps.length k] 27)).alloc (.cells #[.int .i64 0, .int .i64 0, .int .i64 0, .int .i64 0, .int .i64 0, .slice none 0 0, .slice none 0 0] 27)).cell? ⟨w.heap.size, 1, none⟩ = some (.int .i64 y0) := by first | (simp; done) | go_simp
  have D2 : ((w.alloc (.cells #[.int .i64 x0, .int .i64 y0, .int .i64 x1, .int .i64 y1, .int .i64 s, .slice A zs.length c, .slice B ps.length k] 27)).alloc (.cells #[.int .i64 0, .int .i64 0, .int .i64 0, .int .i64 0, .int .i64 0, .slice none 0 0, .slice none 0 0] 27)).cell? ⟨w.heap.size, 2, none⟩ = some (.int .i64 x1) := by first | (simp; done) | go_simp
  have D3 : ((w.alloc (.cells #[.int .i64 x0, .int .i64 y0, .int .i64 x1, .int .i64 y1, .int .i64 s, .slice A zs.length c, .slice B ps.length k] 27)).alloc (.cells #[.int .i64 0, .int .i64 0, .int .i64 0, .int .i64 0, .int .i64 0, .slice none 0 0, .slice none 0 0] 27)).cell? ⟨w.heap.size, 3, none⟩ = some (.int .i64 y1) := by first | (simp; done) | go_simp
  have D4 : ((w.alloc (.cells #[.int .i64 x0, .int .i64 y0, .int .i64 x1, .int .i64 y1, .int .i64 s, .slice A zs.length c, .slice B ps.length k] 27)).alloc (.cells #[.int .i64 0, .int .i64 0, .int .i64 0, .int .i64 0, .int .i64 0, .slice none 0 0, .slice none 0 0] 27)).cell? ⟨w.heap.size, 4, none⟩ = some (.int .i64 s) := by first | (simp; done) | go_simp
  have D5 : ((w.alloc (.cells #[.int .i64 x0, .int .i64 y0, .int .i64 x1, .int .i64 y1, .int .i64 s, .slice A zs.length c, .slice B ps.length k] 27)).alloc (.cells #[.int .i64 0, .int .i64 0, .int .i64 0, .int .i64 0, .int .i64 0, .slice none 0 0, .slice none 0 0] 27)).cell? ⟨w.heap.size, 5, none⟩ = some (.slice A zs.length c) := by first | (simp; done) | go_simp
  have D6 : ((w.alloc (.cells #[.int .i64 x0, .int .i64 y0, .int .i64 x1, .int .i64 y1, .int .i64 s, .slice A zs.length c, .slice B ps.length k] 27)).alloc (.cells #[.int .i64 0, .int .i64 0, .int .i64 0, .int .i64 0, .int .i64 0, .slice none 0 0, .slice none 0 0] 27)).cell? ⟨w.heap.size, 6, none⟩ = some (.slice B ps.length k) := by first | (simp; done) | go_simp
  have HZ : Hid (((w.alloc (.cells #[.int .i64 x0, .int .i64 y0, .int .i64 x1, .int .i64 y1, .int .i64 s, .slice A zs.length c, .slice B ps.length k] 27)).alloc (.cells #[.int .i64 0, .int .i64 0, .int .i64 0, .int .i64 0, .int .i64 0, .slice none 0 0, .slice none 0 0] 27)).heap[w.heap.size + 1]? = some (.cells #[.int .i64 0, .int .i64 0, .int .i64 0, .int .i64 0, .int .i64 0, .slice none 0 0, .slice none 0 0] 27 (0, 0))) := by
    have h := heap_alloc_new (w.alloc (.cells #[.int .i64 x0, .int .i64 y0, .int .i64 x1, .int .i64 y1, .int .i64 s, .slice A zs.length c, .slice B ps.length k] 27)) (.cells #[.int .i64 0, .int .i64 0, .int .i64 0, .int .i64 0, .int .i64 0, .slice none 0 0, .slice none 0 0] 27)
    rw [show (w.alloc (.cells #[.int .i64 x0, .int .i64 y0, .int .i64 x1, .int .i64 y1, .int .i64 s, .slice A zs.length c, .slice B ps.length k] 27)).heap.size = w.heap.size + 1 by simp] at h
    exact h
  have HR := Lib.hid (hr.out.below hB)
  have HP := Lib.hid (pr.out.below hB)
  have hbo : w.heap.size ≤ w.heap.size + 1 := by omega
  go_enter Try.func27, Try.ntmps27
  go_wp2_with fail
  generalize (w.alloc (.cells #[.int .i64 x0, .int .i64 y0, .int .i64 x1, .int .i64 y1, .int .i64 s, .slice A zs.length c, .slice B ps.length k] 27)).alloc (.cells #[.int .i64 0, .int .i64 0, .int .i64 0, .int .i64 0, .int .i64 0, .slice none 0 0, .slice none 0 0] 27) = W0 at *
  generalize w.heap.size + 1 = bo at *
  have hsW : w.heap.size ≤ W0.heap.size := hB.size
  refine (to_any x0 y0 x1 y1 s A c zs B k ps _ HR hl hn HP pl).mono ?_
  rintro e w1 ⟨g, A', c', B', k', rfl, hgb, hg, ho, hi, hb1⟩
  have HG := Lib.hid hg
  have HO := Lib.hid ho
  have HI := Lib.hid hi
  clear hg ho hi
  replace D0 := cell_kept D0 hb1
  replace D1 := cell_kept D1 hb1
  replace D2 := cell_kept D2 hb1
  replace D3 := cell_kept D3 hb1
  replace D4 := cell_kept D4 hb1
  replace D5 := cell_kept D5 hb1
  replace D6 := cell_kept D6 hb1
  replace HR := Lib.hid (HR.out.below hb1)
  replace HP := Lib.hid (HP.out.below hb1)
  replace HZ := Lib.hid (heap_kept HZ.out hb1)
  replace hB := hB.trans (hb1.mono hB.size)
  clear hb1
  clear D0 D1 D2 D3 D4 D5 D6
  clear HR HP
  obtain ⟨bb, ms, rfl, hbb, hmb, hms, hmc, htk⟩ := own_block HO.out (by omega)
  have HMB := Lib.hid hmb
  clear hmb htk
  go_wp2_with fail
  refine (setM_in g bb 0 zs.length c' k' m ms x0 y0 x1 y1 s B' ps x y v _ HG.out HMB.out (by omega) hI b1 b2 b3 b4 p1 p2 HK (by omega)).mono ?_
  rintro e w2 ⟨rfl, hmb2, hgr⟩
  rw [Nat.zero_add] at hmb2
  have hne := block_ne HG.out HMB.out (by decide)
  have hne2 := block_ne HZ.out HMB.out (by decide)
  replace HG := Lib.hid (grown_heap hgr HG.out (fun e => hne (by injection e)))
  replace HZ := Lib.hid (grown_heap hgr HZ.out (fun e => hne2 (by injection e)))
  have HO2 := Lib.hid (own_set1 HO.out HMB.out hmb2)
  replace HI := Lib.hid (HI.out.kept hgr (Or.inr (own_blk HI.out HMB.out (by decide)).symm))
  replace hB := below_grown hB hgr (by omega)
  clear hmb2 hgr HO HMB
  have HL : Hid ((zs.set m v).length = zs.length) := List.length_set
  have hl' : Small (zs.set m v) := by unfold Small at *; rw [HL.out]; exact hl
  rw [HZ2.out] at HL hl' HO2
  rw [← HL.out] at HG HO2
  have HRr := Lib.hid (Reads.of_own HO2.out)
  have HNr := Lib.hid (own_nil HO2.out)
  have HIr := Lib.hid (IReads.of_own HI.out)
  have hz3 : w.heap.size ≤ w2.heap.size := hB.size
  go_wp2_with fail
  refine (of_any g x0 y0 x1 y1 s _ c' z2 B' k' ps _ HG.out HRr hl' HNr HIr pl).mono ?_
  rintro e w2 ⟨E1, f1, E2, f2, rfl, hw1, hw2, hb2⟩
  replace HZ := Lib.hid (heap_kept HZ.out hb2)
  replace hB := hB.trans (hb2.mono hB.size)
  clear hb2
  have zc0 := row_cell (i := 0) (v := .int .i64 0) HZ.out rfl
  have zc1 := row_cell (i := 1) (v := .int .i64 0) HZ.out rfl
  have zc2 := row_cell (i := 2) (v := .int .i64 0) HZ.out rfl
  have zc3 := row_cell (i := 3) (v := .int .i64 0) HZ.out rfl
  have zc4 := row_cell (i := 4) (v := .int .i64 0) HZ.out rfl
  have zc5 := row_cell (i := 5) (v := .slice none 0 0) HZ.out rfl
  have zc6 := row_cell (i := 6) (v := .slice none 0 0) HZ.out rfl
  have zf0 := frozen_of_row _ _ 0 _ _ HZ.out
  have zf1 := frozen_of_row _ _ 1 _ _ HZ.out
  have zf2 := frozen_of_row _ _ 2 _ _ HZ.out
  have zf3 := frozen_of_row _ _ 3 _ _ HZ.out
  have zf4 := frozen_of_row _ _ 4 _ _ HZ.out
  have zf5 := frozen_of_row _ _ 5 _ _ HZ.out
  have zf6 := frozen_of_row _ _ 6 _ _ HZ.out
  go_wp2_with fail
  clear zc0 zf0 zc1 zf1 zc2 zf2 zc3 zf3 zc4 zf4 zc5 zf5 zc6 zf6
  have HF : Hid ((((((((w2.setCell ⟨bo, 0, none⟩ (.int .i64 x0)).setCell ⟨bo, 1, none⟩ (.int .i64 y0)).setCell ⟨bo, 2, none⟩ (.int .i64 x1)).setCell ⟨bo, 3, none⟩ (.int .i64 y1)).setCell ⟨bo, 4, none⟩ (.int .i64 s)).setCell ⟨bo, 5, none⟩ (.slice E1 z2.length f1)).setCell ⟨bo, 6, none⟩ (.slice E2 ps.length f2)).heap[bo]? = some (.cells #[.int .i64 x0, .int .i64 y0, .int .i64 x1, .int .i64 y1, .int .i64 s, .slice E1 z2.length f1, .slice E2 ps.length f2] 27 (0, 0))) := sets7 HZ.out
  have HBx : Below w.heap.size w (((((((w2.setCell ⟨bo, 0, none⟩ (.int .i64 x0)).setCell ⟨bo, 1, none⟩ (.int .i64 y0)).setCell ⟨bo, 2, none⟩ (.int .i64 x1)).setCell ⟨bo, 3, none⟩ (.int .i64 y1)).setCell ⟨bo, 4, none⟩ (.int .i64 s)).setCell ⟨bo, 5, none⟩ (.slice E1 z2.length f1)).setCell ⟨bo, 6, none⟩ (.slice E2 ps.length f2)) := sets7_below hB hbo
  have HW1 : Hid ((((((((w2.setCell ⟨bo, 0, none⟩ (.int .i64 x0)).setCell ⟨bo, 1, none⟩ (.int .i64 y0)).setCell ⟨bo, 2, none⟩ (.int .i64 x1)).setCell ⟨bo, 3, none⟩ (.int .i64 y1)).setCell ⟨bo, 4, none⟩ (.int .i64 s)).setCell ⟨bo, 5, none⟩ (.slice E1 z2.length f1)).setCell ⟨bo, 6, none⟩ (.slice E2 ps.length f2)).ownsRow w.heap.size 5 1 (.slice E1 z2.length f1) z2.length (z2.map (Value.int .u8))) := sets7_own (ownsRow_base hw1 hz3) HZ.out (by decide)
  have HW2 : Hid (POwn (((((((w2.setCell ⟨bo, 0, none⟩ (.int .i64 x0)).setCell ⟨bo, 1, none⟩ (.int .i64 y0)).setCell ⟨bo, 2, none⟩ (.int .i64 x1)).setCell ⟨bo, 3, none⟩ (.int .i64 y1)).setCell ⟨bo, 4, none⟩ (.int .i64 s)).setCell ⟨bo, 5, none⟩ (.slice E1 z2.length f1)).setCell ⟨bo, 6, none⟩ (.slice E2 ps.length f2)) w.heap.size E2 f2 ps) := sets7_own (ownsRow_base hw2 hz3) HZ.out (by decide)
  generalize (((((((w2.setCell ⟨bo, 0, none⟩ (.int .i64 x0)).setCell ⟨bo, 1, none⟩ (.int .i64 y0)).setCell ⟨bo, 2, none⟩ (.int .i64 x1)).setCell ⟨bo, 3, none⟩ (.int .i64 y1)).setCell ⟨bo, 4, none⟩ (.int .i64 s)).setCell ⟨bo, 5, none⟩ (.slice E1 z2.length f1)).setCell ⟨bo, 6, none⟩ (.slice E2 ps.length f2)) = wz at *
  clear hw1 hw2
  have r0 := row_cell (i := 0) (v := .int .i64 x0) HF.out rfl
  have r1 := row_cell (i := 1) (v := .int .i64 y0) HF.out rfl
  have r2 := row_cell (i := 2) (v := .int .i64 x1) HF.out rfl
  have r3 := row_cell (i := 3) (v := .int .i64 y1) HF.out rfl
  have r4 := row_cell (i := 4) (v := .int .i64 s) HF.out rfl
  have r5 := row_cell (i := 5) (v := .slice E1 z2.length f1) HF.out rfl
  have r6 := row_cell (i := 6) (v := .slice E2 ps.length f2) HF.out rfl
  go_wp2
  exact bodyPost_ret (v := .agg #[.int .i64 x0, .int .i64 y0, .int .i64 x1, .int .i64 y1, .int .i64 s, .slice E1 z2.length f1, .slice E2 ps.length f2]) (by simp [results, Try.results27, go_sem, r0, r1, r2, r3, r4, r5, r6]) rfl ⟨E1, f1, E2, f2, rfl, HW1.out, HW2.out, HBx⟩

end Go.Proofs.Ytkhgobeeaiagfaa
