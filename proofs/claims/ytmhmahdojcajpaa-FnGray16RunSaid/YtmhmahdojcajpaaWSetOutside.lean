/- Writing a number of two bytes: the method SetGray16, impl.Gray16Set; the walk of the law FnGray16SetOutside. -/
import Derived.Test.YtmhmahdojcajpaaWAt
import Derived.Test.YtmhmahdojcajpaaOf
namespace Go.Proofs.Ytmhmahdojcajpaa
open Go.RowKit
set_option linter.unusedVariables false

theorem set_out (g : Nat) (A : Option Addr) (c : Nat) (zs : List Int) (s x0 y0 x1 y1 x y v : Int) (w : World) (hg : w.heap[g]? = some (.cells #[.slice A zs.length c, .int .i64 s, .int .i64 x0, .int .i64 y0, .int .i64 x1, .int .i64 y1] 99 (0, 0))) (hI : Hid (¬ Insd x0 y0 x1 y1 x y)) :
    Calls Try.prog 50 #[.pointer (some ⟨g, 0, none⟩), .int .i64 x, .int .i64 y, .agg #[.int .u16 v]] w fun e w' => e = .returned (.tuple #[]) ∧ Below w.heap.size w w' := by
  have HG := Lib.hid hg
  have g0 := cell_of_row w g 0 _ _ _ hg
  have g1 := cell_of_row w g 1 _ _ _ hg
  have g2 := cell_of_row w g 2 _ _ _ hg
  have g3 := cell_of_row w g 3 _ _ _ hg
  have g4 := cell_of_row w g 4 _ _ _ hg
  have g5 := cell_of_row w g 5 _ _ _ hg
  simp at g0 g1 g2 g3 g4 g5
  have hgl : g < w.heap.size := block_lt_of_cell g0
  clear hg HG
  go_enter Try.func50, Try.ntmps50
  go_wp2_with fail
  refine (in_any x0 y0 x1 y1 x y false (by simp [hI.out]) _).mono ?_
  rintro e w1 ⟨rfl, hb1⟩
  have hB1 : Below w.heap.size w w1 := ((Below.refl _ _).alloc (Nat.le_refl _) _).trans (hb1.mono (by simp))
  have hz1 : w.heap.size < w1.heap.size := by have := hb1.size; simp at this; omega
  have q0 : w1.cell? ⟨w.heap.size, 0, none⟩ = some (.int .u16 v) := ((bcell hb1).1 _ 0 (by simp)).trans (by simp)
  go_wp2
  exact bodyPost_ret (v := .tuple #[]) (by simp [results, Try.results50, go_sem]) rfl ⟨rfl, hB1⟩

theorem set_in (g b o n c k : Nat) (ms : Array Value) (s x0 y0 x1 y1 x y v : Int) (w : World) (hg : w.heap[g]? = some (.cells #[.slice (some ⟨b, o, none⟩) n c, .int .i64 s, .int .i64 x0, .int .i64 y0, .int .i64 x1, .int .i64 y1] 99 (0, 0)))
    (hb : w.heap[b]? = some (.cells ms 5 (0, 0))) (hsz : o + n ≤ ms.size) (hI : Hid (Insd x0 y0 x1 y1 x y)) (HK : Hid ((y - y0) * s + (x - x0) * 2 = k)) (b1 : -4398046511104 ≤ y - y0) (b2 : y - y0 ≤ 4398046511104) (b3 : -4398046511104 ≤ x - x0) (b4 : x - x0 ≤ 4398046511104)
    (p1 : -2305843009213693952 ≤ (y - y0) * s) (p2 : (y - y0) * s ≤ 2305843009213693952)
    (hk : (k : Int) + 1 < n) (hn : (n : Int) ≤ 140737488351232) (h0 : 0 ≤ v) (h1 : v ≤ 65535) :
    Calls Try.prog 50 #[.pointer (some ⟨g, 0, none⟩), .int .i64 x, .int .i64 y, .agg #[.int .u16 v]] w fun e w' => e = .returned (.tuple #[]) ∧ w'.heap[b]? = some (.cells (put2 ms (o + k) v) 5 (0, 0)) ∧ w.grownBy w' (some b) := by
  have hgb := block_ne hg hb (by decide)
  have hbl := heap_lt hb
  obtain ⟨u0, hu0⟩ : ∃ u, ms[o + k]? = some u := ⟨_, Array.getElem?_eq_getElem (by omega)⟩
  obtain ⟨u1, hu1⟩ : ∃ u, ms[o + (k + 1)]? = some u := ⟨_, Array.getElem?_eq_getElem (by omega)⟩
  have c0 : w.cell? ⟨b, o + k, none⟩ = some u0 := (cell_of_row w b _ _ _ _ hb).trans hu0
  have c1 : w.cell? ⟨b, o + (k + 1), none⟩ = some u1 := (cell_of_row w b _ _ _ _ hb).trans hu1
  have HBK := Lib.hid hb
  have HG := Lib.hid hg
  have g0 := cell_of_row w g 0 _ _ _ hg
  have g1 := cell_of_row w g 1 _ _ _ hg
  have g2 := cell_of_row w g 2 _ _ _ hg
  have g3 := cell_of_row w g 3 _ _ _ hg
  have g4 := cell_of_row w g 4 _ _ _ hg
  have g5 := cell_of_row w g 5 _ _ _ hg
  simp at g0 g1 g2 g3 g4 g5
  have hgl : g < w.heap.size := block_lt_of_cell g0
  clear hg hb hu0 hu1
  go_enter Try.func50, Try.ntmps50
  go_wp2_with fail
  refine (in_any x0 y0 x1 y1 x y true (by simp [hI.out]) _).mono ?_
  rintro e w1 ⟨rfl, hb1⟩
  have hB1 : Below w.heap.size w w1 := ((Below.refl _ _).alloc (Nat.le_refl _) _).trans (hb1.mono (by simp))
  have hz1 : w.heap.size < w1.heap.size := by have := hb1.size; simp at this; omega
  have q0 : w1.cell? ⟨w.heap.size, 0, none⟩ = some (.int .u16 v) := ((bcell hb1).1 _ 0 (by simp)).trans (by simp)
  replace c0 := cell_kept c0 hB1
  replace c1 := cell_kept c1 hB1
  replace g0 := cell_kept g0 hB1
  have HG1 := Lib.hid (heap_kept HG.out hB1)
  have HB1 := Lib.hid (heap_kept HBK.out hB1)
  have d0 := frozen_of_row w1 b (o + k) _ _ HB1.out
  have d1 := frozen_of_row w1 b (o + (k + 1)) _ _ HB1.out
  have GR := Lib.hid (grown_of (row := some b) hB1)
  clear hb1 g1 g2 g3 g4 g5 HG HBK hB1
  go_wp2_with fail
  refine (pixOffset_any g _ c (List.replicate n 0) s x0 y0 x1 y1 x y _ (by simpa using HG1.out) b1 b2 b3 b4 p1 p2).mono ?_
  rintro e w2 ⟨rfl, m, rfl⟩
  rw [HK.out]
  clear b1 b2 b3 b4 p1 p2 HK HG1 hI
  have e0 : ¬ b = g := fun h => hgb h.symm
  have e1 : ¬ g = b := hgb
  have e2 : ¬ b = w.heap.size := by omega
  have e3 : ¬ w.heap.size = b := by omega
  have i0 : (0 : Int) ≤ (k : Int) := by omega
  have i1 : (k : Int) < (n : Int) := by omega
  have i2 : (0 : Int) ≤ (k : Int) + 1 := by omega
  have i4 : ((k : Int) + 1).toNat = k + 1 := by omega
  have i3 : IntKind.i64.wrap ((k : Int) + 1) = (k : Int) + 1 := IntWalk.i64_in _ (by omega)
  go_wp2
  go_region
  go_wp2
  go_region
  go_wp2
  go_end0
  exact ⟨rfl, heap_setCell_same _ _ _ _ _ _ (heap_setCell_same _ _ _ _ _ _ HB1.out), grown_drewN (n := 1) (grown_setCell (grown_setCell (grown_drewN GR.out _) (Or.inl rfl) _) (Or.inl rfl) _) ⟩

/-- impl.Gray16Set outside of the bounds. -/
theorem implSet_out (x0 y0 x1 y1 s x y v : Int) (A : Option Addr) (c : Nat) (zs : List Int) (w : World) (hr : Hid (Reads w A zs)) (hl : Small zs) (hn : Hid (A = none → c = 0))
    (hI : Hid (¬ Insd x0 y0 x1 y1 x y)) :
    Calls Try.prog 27 #[.agg #[.int .i64 x0, .int .i64 y0, .int .i64 x1, .int .i64 y1, .int .i64 s, .slice A zs.length c], .int .i64 x, .int .i64 y, .int .u16 v] w (DeepBack zs s x0 y0 x1 y1 w) := by
  go_enter Try.func27, Try.ntmps27
  go_wp2_with fail
  refine (to_any x0 y0 x1 y1 s A c zs _ (hr.out.below (((Below.refl _ _).alloc (Nat.le_refl _) _).alloc (by simp) _)) hl hn.out).mono ?_
  rintro e w1 ⟨g, A', c', rfl, hgb, hg, hown, hb1⟩
  have HG := Lib.hid hg
  have HO := Lib.hid hown
  obtain ⟨hc1, hf1⟩ := bcell hb1
  have hz1 : w.heap.size + 1 < w1.heap.size := by have := hb1.size; simp at this; omega
  have hB1 : Below w.heap.size w w1 := (((Below.refl _ _).alloc (Nat.le_refl _) _).alloc (by simp) _).trans (hb1.mono (by simp; omega))
  have r0 : w1.cell? ⟨w.heap.size + 1, 0, none⟩ = some (.int .i64 0) := (hc1 _ 0 (by simp)).trans (by simp)
  have r1 : w1.cell? ⟨w.heap.size + 1, 1, none⟩ = some (.int .i64 0) := (hc1 _ 1 (by simp)).trans (by simp)
  have r2 : w1.cell? ⟨w.heap.size + 1, 2, none⟩ = some (.int .i64 0) := (hc1 _ 2 (by simp)).trans (by simp)
  have r3 : w1.cell? ⟨w.heap.size + 1, 3, none⟩ = some (.int .i64 0) := (hc1 _ 3 (by simp)).trans (by simp)
  have r4 : w1.cell? ⟨w.heap.size + 1, 4, none⟩ = some (.int .i64 0) := (hc1 _ 4 (by simp)).trans (by simp)
  have r5 : w1.cell? ⟨w.heap.size + 1, 5, none⟩ = some (.slice none 0 0) := (hc1 _ 5 (by simp)).trans (by simp)
  have fz : ∀ i, w1.frozen? ⟨w.heap.size + 1, i, none⟩ = false := fun i => (hf1 _ i (by simp)).trans (by simp)
  have FZ := Lib.hid fz
  clear hg hown hb1 hc1 hf1 fz
  go_wp2_with fail
  refine (set_out g A' c' zs s x0 y0 x1 y1 x y v _ HG.out hI).mono ?_
  rintro e w2 ⟨rfl, hb2⟩
  have HG2 := Lib.hid (heap_kept HG.out hb2)
  have HO2 := Lib.hid (ownsRow_below HO.out hb2)
  go_wp2_with fail
  refine (of_any g A' c' zs s x0 y0 x1 y1 _ HG2.out (Reads.of_own HO2.out) hl (own_nil HO2.out)).mono ?_
  rintro e w3 ⟨A3, c3, rfl, hown3, hb3⟩
  have hB23 : Below w1.heap.size w1 w3 := hb2.trans (hb3.mono hb2.size)
  have hB3 : Below w.heap.size w w3 := hB1.trans (hB23.mono (by omega))
  have hz3 : w.heap.size + 1 < w2.heap.size := by have := hb2.size; omega
  replace r0 := cell_kept r0 hB23
  replace r1 := cell_kept r1 hB23
  replace r2 := cell_kept r2 hB23
  replace r3 := cell_kept r3 hB23
  replace r4 := cell_kept r4 hB23
  replace r5 := cell_kept r5 hB23
  have f0 : w3.frozen? ⟨w.heap.size + 1, 0, none⟩ = false := (hB23.frozen (by simpa using hz1)).trans (FZ.out 0)
  have f1 : w3.frozen? ⟨w.heap.size + 1, 1, none⟩ = false := (hB23.frozen (by simpa using hz1)).trans (FZ.out 1)
  have f2 : w3.frozen? ⟨w.heap.size + 1, 2, none⟩ = false := (hB23.frozen (by simpa using hz1)).trans (FZ.out 2)
  have f3 : w3.frozen? ⟨w.heap.size + 1, 3, none⟩ = false := (hB23.frozen (by simpa using hz1)).trans (FZ.out 3)
  have f4 : w3.frozen? ⟨w.heap.size + 1, 4, none⟩ = false := (hB23.frozen (by simpa using hz1)).trans (FZ.out 4)
  have f5 : w3.frozen? ⟨w.heap.size + 1, 5, none⟩ = false := (hB23.frozen (by simpa using hz1)).trans (FZ.out 5)
  have HO3 := Lib.hid hown3
  clear hown3 hb2 hb3
  go_wp2
  refine bodyPost_ret (v := .agg #[.int .i64 x0, .int .i64 y0, .int .i64 x1, .int .i64 y1, .int .i64 s, .slice A3 zs.length c3]) (by simp [results, Try.results27, go_sem, r0, r1, r2, r3, r4, r5]) rfl ⟨A3, c3, rfl, ?_, ?_⟩
  · refine ownsRow_base (base' := w2.heap.size) ?_ (by omega)
    exact ownsRow_setCell_below (ownsRow_setCell_below (ownsRow_setCell_below (ownsRow_setCell_below (ownsRow_setCell_below (ownsRow_setCell_below HO3.out hz3 _) hz3 _) hz3 _) hz3 _) hz3 _) hz3 _
  · exact (((((hB3.setCell (Nat.le_succ _) _).setCell (Nat.le_succ _) _).setCell (Nat.le_succ _) _).setCell (Nat.le_succ _) _).setCell (Nat.le_succ _) _).setCell (Nat.le_succ _) _

theorem setOutside_in (x0 y0 x1 y1 s x y v : Int) (A : Option Addr) (c : Nat) (zs : List Int) (w : World) (hr : Hid (Reads w A zs)) (hy : Hid (Bytes zs)) (hl : Small zs) (hn : Hid (A = none → c = 0)) (h0 : 0 ≤ v) (h1 : v ≤ 65535) (hI : Hid (Insd x0 y0 x1 y1 x y)) :
    Calls Try.prog 7 #[.agg #[.int .i64 x0, .int .i64 y0, .int .i64 x1, .int .i64 y1, .int .i64 s, .slice A zs.length c], .int .i64 x, .int .i64 y, .int .u16 v] w fun e w' => e = .returned (.bool true) ∧ Below w.heap.size w w' := by
  go_enter Try.func7, Try.ntmps7
  go_wp2_with fail
  refine (inside_any x0 y0 x1 y1 x y true (by simp [hI.out]) _).mono ?_
  rintro e w1 ⟨rfl, hb1⟩
  obtain ⟨hz1, hB1, c10, c11, c12, c13, c14, c15⟩ := keep6 hb1 (start6 w _ _ _ _ _ _ _ )
  clear hb1
  go_wp2
  go_ret
  exact ⟨by simp, hB1⟩

theorem setOutside_out (x0 y0 x1 y1 s x y v : Int) (A : Option Addr) (c : Nat) (zs : List Int) (w : World) (hr : Hid (Reads w A zs)) (hy : Hid (Bytes zs)) (hl : Small zs) (hn : Hid (A = none → c = 0)) (h0 : 0 ≤ v) (h1 : v ≤ 65535) (hI : Hid (¬ Insd x0 y0 x1 y1 x y)) :
    Calls Try.prog 7 #[.agg #[.int .i64 x0, .int .i64 y0, .int .i64 x1, .int .i64 y1, .int .i64 s, .slice A zs.length c], .int .i64 x, .int .i64 y, .int .u16 v] w fun e w' => e = .returned (.bool true) ∧ Below w.heap.size w w' := by
  go_enter Try.func7, Try.ntmps7
  go_wp2_with fail
  refine (inside_any x0 y0 x1 y1 x y false (by simp [hI.out]) _).mono ?_
  rintro e w1 ⟨rfl, hb1⟩
  obtain ⟨hz1, hB1, c10, c11, c12, c13, c14, c15⟩ := keep6 hb1 (start6 w _ _ _ _ _ _ _ )
  clear hb1
  go_wp2
  go_region_held3 (fun w' => w.heap.size < w'.heap.size ∧ Below w.heap.size w w' ∧ w'.cell? ⟨w.heap.size, 0, none⟩ = some (.int .i64 x0) ∧ w'.cell? ⟨w.heap.size, 1, none⟩ = some (.int .i64 y0) ∧ w'.cell? ⟨w.heap.size, 2, none⟩ = some (.int .i64 x1) ∧ w'.cell? ⟨w.heap.size, 3, none⟩ = some (.int .i64 y1) ∧ w'.cell? ⟨w.heap.size, 4, none⟩ = some (.int .i64 s) ∧ w'.cell? ⟨w.heap.size, 5, none⟩ = some (.slice A zs.length c))
    (first | exact ⟨hz1, hB1.drew, c10, c11, c12, c13, c14, c15⟩ | exact keep6 (by assumption) (by assumption))
    (first | (go_at_call 27; refine (implSet_out x0 y0 x1 y1 s x y v A c zs _ ?_ hl hn hI).mono ?_; exact hr.out.below (heldB (by assumption)); rintro e w8 ⟨A8, c8, rfl, hown8, hb8⟩) | (go_at_call 26; refine (same_any x0 y0 x1 y1 s A8 A c8 c zs _ ?_ ?_).mono ?_; exact Reads.of_own hown8; exact hr.out.below (heldB (by assumption)); rintro e w9 ⟨rfl, hb9⟩))
  rename_i hS
  go_wp2
  go_ret
  exact ⟨by simp, hS.2.1⟩

theorem walk_setOutside (x0 y0 x1 y1 s x y v : Int) (A : Option Addr) (c : Nat) (zs : List Int) (w : World) (hr : Hid (Reads w A zs)) (hy : Hid (Bytes zs)) (hl : Small zs) (hn : Hid (A = none → c = 0)) (h0 : 0 ≤ v) (h1 : v ≤ 65535) :
    Calls Try.prog 7 #[.agg #[.int .i64 x0, .int .i64 y0, .int .i64 x1, .int .i64 y1, .int .i64 s, .slice A zs.length c], .int .i64 x, .int .i64 y, .int .u16 v] w fun e w' => e = .returned (.bool true) ∧ Below w.heap.size w w' := by
  by_cases hI : Insd x0 y0 x1 y1 x y
  · exact setOutside_in x0 y0 x1 y1 s x y v A c zs w hr hy hl hn h0 h1 hI
  · exact setOutside_out x0 y0 x1 y1 s x y v A c zs w hr hy hl hn h0 h1 hI

end Go.Proofs.Ytmhmahdojcajpaa
