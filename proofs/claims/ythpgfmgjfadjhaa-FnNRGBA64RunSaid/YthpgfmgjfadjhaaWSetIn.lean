/- Four numbers of two bytes, written: the method SetNRGBA64 and impl.NRGBA64Set at a pixel. -/
import Derived.Test.YthpgfmgjfadjhaaWSetOutside
namespace Go.Proofs.Ythpgfmgjfadjhaa
open Go.RowKit
set_option linter.unusedVariables false

/-- Eight bytes of a block, written. -/
def put8 (ms : Array Value) (j : Nat) (v0 v1 v2 v3 : Int) : Array Value := put2 (put2 (put2 (put2 ms j v0) (j + 2) v1) (j + 4) v2) (j + 6) v3
/-- Eight bytes of a list, written. -/
def putW (zs : List Int) (k : Nat) (v0 v1 v2 v3 : Int) : List Int := putL (putL (putL (putL zs k v0) (k + 2) v1) (k + 4) v2) (k + 6) v3
theorem putW_length (zs : List Int) (k : Nat) (v0 v1 v2 v3 : Int) : (putW zs k v0 v1 v2 v3).length = zs.length := by simp [putW, putL_length]
theorem put8_size (ms : Array Value) (j : Nat) (v0 v1 v2 v3 : Int) : (put8 ms j v0 v1 v2 v3).size = ms.size := by simp [put8, put2_size]
theorem putW_bytes {zs : List Int} (h : Bytes zs) (k : Nat) (v0 v1 v2 v3 : Int) (h0 : 0 ≤ v0) (h1 : v0 ≤ 65535) (h2 : 0 ≤ v1) (h3 : v1 ≤ 65535) (h4 : 0 ≤ v2) (h5 : v2 ≤ 65535) (h6 : 0 ≤ v3) (h7 : v3 ≤ 65535) : Bytes (putW zs k v0 v1 v2 v3) :=
  putL_bytes (putL_bytes (putL_bytes (putL_bytes h k v0 h0 h1) (k + 2) v1 h2 h3) (k + 4) v2 h4 h5) (k + 6) v3 h6 h7
theorem take_put8 {ms : Array Value} {zs : List Int} {n k : Nat} {v0 v1 v2 v3 : Int} (h : ms.toList.take n = zs.map (Value.int .u8)) :
    (put8 ms k v0 v1 v2 v3).toList.take n = (putW zs k v0 v1 v2 v3).map (Value.int .u8) :=
  take_put2 (take_put2 (take_put2 (take_put2 h)))
theorem own_put8 {w w' : World} {base b n c k : Nat} {ms : Array Value} {zs : List Int} {v0 v1 v2 v3 : Int} (h : w.ownsRow base 5 1 (.slice (some ⟨b, 0, none⟩) n c) n (zs.map (Value.int .u8)))
    (hb : w.heap[b]? = some (.cells ms 5 (0, 0))) (hb' : w'.heap[b]? = some (.cells (put8 ms k v0 v1 v2 v3) 5 (0, 0))) : w'.ownsRow base 5 1 (.slice (some ⟨b, 0, none⟩) n c) n ((putW zs k v0 v1 v2 v3).map (Value.int .u8)) := by
  obtain ⟨h1, h2⟩ := h
  refine ⟨by simpa [putW_length] using h1, ?_⟩
  rcases h2 with ⟨hv, _⟩ | ⟨g, cap, cur, hv, hg, hh, hnc, hcm, hsz, htk⟩
  · cases hv
  · injection hv with e1 e2 e3
    injection e1 with e1
    injection e1 with e1
    subst e1 e3
    rw [hb] at hh
    injection hh with hh
    injection hh with hh
    subst hh
    exact Or.inr ⟨b, c, put8 ms k v0 v1 v2 v3, rfl, hg, hb', hnc, hcm, by rw [put8_size]; exact hsz, by simpa using take_put8 (by simpa using htk)⟩
theorem numAt_put {zs : List Int} {k : Nat} {v : Int} (hk : k + 1 < zs.length) : numAt (putL zs k v) k = v := by
  unfold numAt putL
  rw [List.getD_eq_getElem?_getD, List.getD_eq_getElem?_getD, List.getElem?_set, List.getElem?_set, List.getElem?_set]
  simp
  rw [if_pos (by omega), if_pos (by omega)]
  simp
  omega
theorem getD_put {zs : List Int} {k i : Nat} {v : Int} (h : i < k ∨ k + 1 < i) : (putL zs k v).getD i 0 = zs.getD i 0 := by
  unfold putL
  rw [List.getD_eq_getElem?_getD, List.getD_eq_getElem?_getD, List.getElem?_set, List.getElem?_set, if_neg (by omega), if_neg (by omega)]
theorem numAt_put_other {zs : List Int} {k i : Nat} {v : Int} (h : i + 1 < k ∨ k + 1 < i) : numAt (putL zs k v) i = numAt zs i := by
  unfold numAt
  rw [getD_put (by omega), getD_put (by omega)]
theorem numAt_putW {zs : List Int} {k : Nat} {v0 v1 v2 v3 : Int} (hk : k + 8 ≤ zs.length) : numAt (putW zs k v0 v1 v2 v3) k = v0 ∧ numAt (putW zs k v0 v1 v2 v3) (k + 2) = v1 ∧ numAt (putW zs k v0 v1 v2 v3) (k + 4) = v2 ∧ numAt (putW zs k v0 v1 v2 v3) (k + 6) = v3 := by
  unfold putW
  refine ⟨?_, ?_, ?_, ?_⟩
  · rw [numAt_put_other (by omega), numAt_put_other (by omega), numAt_put_other (by omega), numAt_put (by omega)]
  · rw [numAt_put_other (by omega), numAt_put_other (by omega), numAt_put (by simp [putL_length]; omega)]
  · rw [numAt_put_other (by omega), numAt_put (by simp [putL_length]; omega)]
  · rw [numAt_put (by simp [putL_length]; omega)]

set_option maxRecDepth 100000 in
set_option maxHeartbeats 2000000 in
theorem set_in (g b o n c k : Nat) (ms : Array Value) (s x0 y0 x1 y1 x y v0 v1 v2 v3 : Int) (w : World) (hg : w.heap[g]? = some (.cells #[.slice (some ⟨b, o, none⟩) n c, .int .i64 s, .int .i64 x0, .int .i64 y0, .int .i64 x1, .int .i64 y1] 100 (0, 0)))
    (hb : w.heap[b]? = some (.cells ms 5 (0, 0))) (hsz : o + n ≤ ms.size) (hI : Hid (Insd x0 y0 x1 y1 x y)) (HK : Hid ((y - y0) * s + (x - x0) * 8 = k)) (b1 : -4398046511104 ≤ y - y0) (b2 : y - y0 ≤ 4398046511104) (b3 : -4398046511104 ≤ x - x0) (b4 : x - x0 ≤ 4398046511104)
    (p1 : -2305843009213693952 ≤ (y - y0) * s) (p2 : (y - y0) * s ≤ 2305843009213693952)
    (hk : (k : Int) + 8 ≤ n) (hn : (n : Int) ≤ 140737488351232) (hc : (n : Int) ≤ c) (h0 : 0 ≤ v0) (h1 : v0 ≤ 65535) (h2 : 0 ≤ v1) (h3 : v1 ≤ 65535) (h4 : 0 ≤ v2) (h5 : v2 ≤ 65535) (h6 : 0 ≤ v3) (h7 : v3 ≤ 65535) :
    Calls Try.prog 51 #[.pointer (some ⟨g, 0, none⟩), .int .i64 x, .int .i64 y, .agg #[.int .u16 v0, .int .u16 v1, .int .u16 v2, .int .u16 v3]] w fun e w' => e = .returned (.tuple #[]) ∧ w'.heap[b]? = some (.cells (put8 ms (o + k) v0 v1 v2 v3) 5 (0, 0)) ∧ w.grownBy w' (some b) := by
  have hgb := block_ne hg hb (by decide)
  have hbl := heap_lt hb
  obtain ⟨u0, hu0⟩ : ∃ u, ms[o + k]? = some u := ⟨_, Array.getElem?_eq_getElem (by omega)⟩
  have c0 : w.cell? ⟨b, o + k, none⟩ = some u0 := (cell_of_row w b _ _ _ _ hb).trans hu0
  obtain ⟨u1, hu1⟩ : ∃ u, ms[o + k + 1]? = some u := ⟨_, Array.getElem?_eq_getElem (by omega)⟩
  have c1 : w.cell? ⟨b, o + k + 1, none⟩ = some u1 := (cell_of_row w b _ _ _ _ hb).trans hu1
  obtain ⟨u2, hu2⟩ : ∃ u, ms[o + k + 2]? = some u := ⟨_, Array.getElem?_eq_getElem (by omega)⟩
  have c2 : w.cell? ⟨b, o + k + 2, none⟩ = some u2 := (cell_of_row w b _ _ _ _ hb).trans hu2
  obtain ⟨u3, hu3⟩ : ∃ u, ms[o + k + 3]? = some u := ⟨_, Array.getElem?_eq_getElem (by omega)⟩
  have c3 : w.cell? ⟨b, o + k + 3, none⟩ = some u3 := (cell_of_row w b _ _ _ _ hb).trans hu3
  obtain ⟨u4, hu4⟩ : ∃ u, ms[o + k + 4]? = some u := ⟨_, Array.getElem?_eq_getElem (by omega)⟩
  have c4 : w.cell? ⟨b, o + k + 4, none⟩ = some u4 := (cell_of_row w b _ _ _ _ hb).trans hu4
  obtain ⟨u5, hu5⟩ : ∃ u, ms[o + k + 5]? = some u := ⟨_, Array.getElem?_eq_getElem (by omega)⟩
  have c5 : w.cell? ⟨b, o + k + 5, none⟩ = some u5 := (cell_of_row w b _ _ _ _ hb).trans hu5
  obtain ⟨u6, hu6⟩ : ∃ u, ms[o + k + 6]? = some u := ⟨_, Array.getElem?_eq_getElem (by omega)⟩
  have c6 : w.cell? ⟨b, o + k + 6, none⟩ = some u6 := (cell_of_row w b _ _ _ _ hb).trans hu6
  obtain ⟨u7, hu7⟩ : ∃ u, ms[o + k + 7]? = some u := ⟨_, Array.getElem?_eq_getElem (by omega)⟩
  have c7 : w.cell? ⟨b, o + k + 7, none⟩ = some u7 := (cell_of_row w b _ _ _ _ hb).trans hu7
  have HBK := Lib.hid hb
  have HG := Lib.hid hg
  have g0 := cell_of_row w g 0 _ _ _ hg
  have g1 := cell_of_row w g 1 _ _ _ hg
  have g2 := cell_of_row w g 2 _ _ _ hg
  have g3 := cell_of_row w g 3 _ _ _ hg
  have g4 := cell_of_row w g 4 _ _ _ hg
  have g5 := cell_of_row w g 5 _ _ _ hg
  simp at g0 g1 g2 g3 g4 g5
  have hgl : g < w.heap.size := block_lt_of_cell g0
  clear hg hb hu0 hu1 hu2 hu3 hu4 hu5 hu6 hu7
  go_enter Try.func51, Try.ntmps51
  go_wp2_with fail
  refine (in_any x0 y0 x1 y1 x y true (by simp [hI.out]) _).mono ?_
  rintro e w1 ⟨rfl, hb1⟩
  have hB1 : Below w.heap.size w w1 := ((Below.refl _ _).alloc (Nat.le_refl _) _).trans (hb1.mono (by simp))
  have hz1 : w.heap.size < w1.heap.size := by have := hb1.size; simp at this; omega
  have q0 : w1.cell? ⟨w.heap.size, 0, none⟩ = some (.int .u16 v0) := ((bcell hb1).1 _ 0 (by simp)).trans (by simp)
  have q1 : w1.cell? ⟨w.heap.size, 1, none⟩ = some (.int .u16 v1) := ((bcell hb1).1 _ 1 (by simp)).trans (by simp)
  have q2 : w1.cell? ⟨w.heap.size, 2, none⟩ = some (.int .u16 v2) := ((bcell hb1).1 _ 2 (by simp)).trans (by simp)
  have q3 : w1.cell? ⟨w.heap.size, 3, none⟩ = some (.int .u16 v3) := ((bcell hb1).1 _ 3 (by simp)).trans (by simp)
  replace c0 := cell_kept c0 hB1
  replace c1 := cell_kept c1 hB1
  replace c2 := cell_kept c2 hB1
  replace c3 := cell_kept c3 hB1
  replace c4 := cell_kept c4 hB1
  replace c5 := cell_kept c5 hB1
  replace c6 := cell_kept c6 hB1
  replace c7 := cell_kept c7 hB1
  replace g0 := cell_kept g0 hB1
  have HG1 := Lib.hid (heap_kept HG.out hB1)
  have HB1 := Lib.hid (heap_kept HBK.out hB1)
  have d0 := frozen_of_row w1 b (o + k) _ _ HB1.out
  have d1 := frozen_of_row w1 b (o + k + 1) _ _ HB1.out
  have d2 := frozen_of_row w1 b (o + k + 2) _ _ HB1.out
  have d3 := frozen_of_row w1 b (o + k + 3) _ _ HB1.out
  have d4 := frozen_of_row w1 b (o + k + 4) _ _ HB1.out
  have d5 := frozen_of_row w1 b (o + k + 5) _ _ HB1.out
  have d6 := frozen_of_row w1 b (o + k + 6) _ _ HB1.out
  have d7 := frozen_of_row w1 b (o + k + 7) _ _ HB1.out
  have GR := Lib.hid (grown_of (row := some b) hB1)
  clear hb1 g1 g2 g3 g4 g5 HG HBK hB1
  go_wp2_with fail
  refine (pixOffset_any g _ c (List.replicate n 0) s x0 y0 x1 y1 x y _ (by simpa using HG1.out) b1 b2 b3 b4 p1 p2).mono ?_
  rintro e w2 ⟨rfl, m, rfl⟩
  rw [HK.out]
  clear b1 b2 b3 b4 p1 p2 HK HG1 hI
  have e0 : ¬ b = g := fun h => hgb h.symm
  have e1 : ¬ g = b := hgb
  have e2 : ¬ b = w.heap.size := by omega
  have e3 : ¬ w.heap.size = b := by omega
  have i0 : (0 : Int) ≤ (k : Int) := by omega
  have i1 : (k : Int) ≤ (k : Int) + 8 := by omega
  have i2 : (0 : Int) ≤ (k : Int) + 8 := by omega
  have i5 : (k : Int) + 8 ≤ (c : Int) := by omega
  have i4 : ((k : Int) + 8).toNat = k + 8 := by omega
  have i6 : ((k : Int) + 8 - (k : Int)).toNat = 8 := by omega
  have i7 : k + 8 - k = 8 := by omega
  have i3 : IntKind.i64.wrap ((k : Int) + 8) = (k : Int) + 8 := IntWalk.i64_in _ (by omega)
  have HH0 : ((w1.drewN m).setCell ⟨b, o + k, none⟩ (.int .u8 (v0 / 256))).heap[b]? = some (.cells (ms.setIfInBounds (o + k) (.int .u8 (v0 / 256))) 5 (0, 0)) := heap_setCell_same _ _ _ _ _ _ HB1.out
  have HI0 : w.grownBy ((w1.drewN m).setCell ⟨b, o + k, none⟩ (.int .u8 (v0 / 256))) (some b) := grown_setCell (g := b) (p := ⟨b, o + k, none⟩) (grown_drewN GR.out m) (Or.inl rfl) _
  have HH1 : (((w1.drewN m).setCell ⟨b, o + k, none⟩ (.int .u8 (v0 / 256))).setCell ⟨b, o + k + 1, none⟩ (.int .u8 (v0 % 256))).heap[b]? = some (.cells ((ms.setIfInBounds (o + k) (.int .u8 (v0 / 256))).setIfInBounds (o + k + 1) (.int .u8 (v0 % 256))) 5 (0, 0)) := heap_setCell_same _ _ _ _ _ _ HH0
  have HI1 : w.grownBy (((w1.drewN m).setCell ⟨b, o + k, none⟩ (.int .u8 (v0 / 256))).setCell ⟨b, o + k + 1, none⟩ (.int .u8 (v0 % 256))) (some b) := grown_setCell (g := b) (p := ⟨b, o + k + 1, none⟩) HI0 (Or.inl rfl) _
  have HH2 : ((((w1.drewN m).setCell ⟨b, o + k, none⟩ (.int .u8 (v0 / 256))).setCell ⟨b, o + k + 1, none⟩ (.int .u8 (v0 % 256))).setCell ⟨b, o + k + 2, none⟩ (.int .u8 (v1 / 256))).heap[b]? = some (.cells (((ms.setIfInBounds (o + k) (.int .u8 (v0 / 256))).setIfInBounds (o + k + 1) (.int .u8 (v0 % 256))).setIfInBounds (o + k + 2) (.int .u8 (v1 / 256))) 5 (0, 0)) := heap_setCell_same _ _ _ _ _ _ HH1
  have HI2 : w.grownBy ((((w1.drewN m).setCell ⟨b, o + k, none⟩ (.int .u8 (v0 / 256))).setCell ⟨b, o + k + 1, none⟩ (.int .u8 (v0 % 256))).setCell ⟨b, o + k + 2, none⟩ (.int .u8 (v1 / 256))) (some b) := grown_setCell (g := b) (p := ⟨b, o + k + 2, none⟩) HI1 (Or.inl rfl) _
  have HH3 : (((((w1.drewN m).setCell ⟨b, o + k, none⟩ (.int .u8 (v0 / 256))).setCell ⟨b, o + k + 1, none⟩ (.int .u8 (v0 % 256))).setCell ⟨b, o + k + 2, none⟩ (.int .u8 (v1 / 256))).setCell ⟨b, o + k + 3, none⟩ (.int .u8 (v1 % 256))).heap[b]? = some (.cells ((((ms.setIfInBounds (o + k) (.int .u8 (v0 / 256))).setIfInBounds (o + k + 1) (.int .u8 (v0 % 256))).setIfInBounds (o + k + 2) (.int .u8 (v1 / 256))).setIfInBounds (o + k + 3) (.int .u8 (v1 % 256))) 5 (0, 0)) := heap_setCell_same _ _ _ _ _ _ HH2
  have HI3 : w.grownBy (((((w1.drewN m).setCell ⟨b, o + k, none⟩ (.int .u8 (v0 / 256))).setCell ⟨b, o + k + 1, none⟩ (.int .u8 (v0 % 256))).setCell ⟨b, o + k + 2, none⟩ (.int .u8 (v1 / 256))).setCell ⟨b, o + k + 3, none⟩ (.int .u8 (v1 % 256))) (some b) := grown_setCell (g := b) (p := ⟨b, o + k + 3, none⟩) HI2 (Or.inl rfl) _
  have HH4 : ((((((w1.drewN m).setCell ⟨b, o + k, none⟩ (.int .u8 (v0 / 256))).setCell ⟨b, o + k + 1, none⟩ (.int .u8 (v0 % 256))).setCell ⟨b, o + k + 2, none⟩ (.int .u8 (v1 / 256))).setCell ⟨b, o + k + 3, none⟩ (.int .u8 (v1 % 256))).setCell ⟨b, o + k + 4, none⟩ (.int .u8 (v2 / 256))).heap[b]? = some (.cells (((((ms.setIfInBounds (o + k) (.int .u8 (v0 / 256))).setIfInBounds (o + k + 1) (.int .u8 (v0 % 256))).setIfInBounds (o + k + 2) (.int .u8 (v1 / 256))).setIfInBounds (o + k + 3) (.int .u8 (v1 % 256))).setIfInBounds (o + k + 4) (.int .u8 (v2 / 256))) 5 (0, 0)) := heap_setCell_same _ _ _ _ _ _ HH3
  have HI4 : w.grownBy ((((((w1.drewN m).setCell ⟨b, o + k, none⟩ (.int .u8 (v0 / 256))).setCell ⟨b, o + k + 1, none⟩ (.int .u8 (v0 % 256))).setCell ⟨b, o + k + 2, none⟩ (.int .u8 (v1 / 256))).setCell ⟨b, o + k + 3, none⟩ (.int .u8 (v1 % 256))).setCell ⟨b, o + k + 4, none⟩ (.int .u8 (v2 / 256))) (some b) := grown_setCell (g := b) (p := ⟨b, o + k + 4, none⟩) HI3 (Or.inl rfl) _
  have HH5 : (((((((w1.drewN m).setCell ⟨b, o + k, none⟩ (.int .u8 (v0 / 256))).setCell ⟨b, o + k + 1, none⟩ (.int .u8 (v0 % 256))).setCell ⟨b, o + k + 2, none⟩ (.int .u8 (v1 / 256))).setCell ⟨b, o + k + 3, none⟩ (.int .u8 (v1 % 256))).setCell ⟨b, o + k + 4, none⟩ (.int .u8 (v2 / 256))).setCell ⟨b, o + k + 5, none⟩ (.int .u8 (v2 % 256))).heap[b]? = some (.cells ((((((ms.setIfInBounds (o + k) (.int .u8 (v0 / 256))).setIfInBounds (o + k + 1) (.int .u8 (v0 % 256))).setIfInBounds (o + k + 2) (.int .u8 (v1 / 256))).setIfInBounds (o + k + 3) (.int .u8 (v1 % 256))).setIfInBounds (o + k + 4) (.int .u8 (v2 / 256))).setIfInBounds (o + k + 5) (.int .u8 (v2 % 256))) 5 (0, 0)) := heap_setCell_same _ _ _ _ _ _ HH4
  have HI5 : w.grownBy (((((((w1.drewN m).setCell ⟨b, o + k, none⟩ (.int .u8 (v0 / 256))).setCell ⟨b, o + k + 1, none⟩ (.int .u8 (v0 % 256))).setCell ⟨b, o + k + 2, none⟩ (.int .u8 (v1 / 256))).setCell ⟨b, o + k + 3, none⟩ (.int .u8 (v1 % 256))).setCell ⟨b, o + k + 4, none⟩ (.int .u8 (v2 / 256))).setCell ⟨b, o + k + 5, none⟩ (.int .u8 (v2 % 256))) (some b) := grown_setCell (g := b) (p := ⟨b, o + k + 5, none⟩) HI4 (Or.inl rfl) _
  have HH6 : ((((((((w1.drewN m).setCell ⟨b, o + k, none⟩ (.int .u8 (v0 / 256))).setCell ⟨b, o + k + 1, none⟩ (.int .u8 (v0 % 256))).setCell ⟨b, o + k + 2, none⟩ (.int .u8 (v1 / 256))).setCell ⟨b, o + k + 3, none⟩ (.int .u8 (v1 % 256))).setCell ⟨b, o + k + 4, none⟩ (.int .u8 (v2 / 256))).setCell ⟨b, o + k + 5, none⟩ (.int .u8 (v2 % 256))).setCell ⟨b, o + k + 6, none⟩ (.int .u8 (v3 / 256))).heap[b]? = some (.cells (((((((ms.setIfInBounds (o + k) (.int .u8 (v0 / 256))).setIfInBounds (o + k + 1) (.int .u8 (v0 % 256))).setIfInBounds (o + k + 2) (.int .u8 (v1 / 256))).setIfInBounds (o + k + 3) (.int .u8 (v1 % 256))).setIfInBounds (o + k + 4) (.int .u8 (v2 / 256))).setIfInBounds (o + k + 5) (.int .u8 (v2 % 256))).setIfInBounds (o + k + 6) (.int .u8 (v3 / 256))) 5 (0, 0)) := heap_setCell_same _ _ _ _ _ _ HH5
  have HI6 : w.grownBy ((((((((w1.drewN m).setCell ⟨b, o + k, none⟩ (.int .u8 (v0 / 256))).setCell ⟨b, o + k + 1, none⟩ (.int .u8 (v0 % 256))).setCell ⟨b, o + k + 2, none⟩ (.int .u8 (v1 / 256))).setCell ⟨b, o + k + 3, none⟩ (.int .u8 (v1 % 256))).setCell ⟨b, o + k + 4, none⟩ (.int .u8 (v2 / 256))).setCell ⟨b, o + k + 5, none⟩ (.int .u8 (v2 % 256))).setCell ⟨b, o + k + 6, none⟩ (.int .u8 (v3 / 256))) (some b) := grown_setCell (g := b) (p := ⟨b, o + k + 6, none⟩) HI5 (Or.inl rfl) _
  have HH7 : (((((((((w1.drewN m).setCell ⟨b, o + k, none⟩ (.int .u8 (v0 / 256))).setCell ⟨b, o + k + 1, none⟩ (.int .u8 (v0 % 256))).setCell ⟨b, o + k + 2, none⟩ (.int .u8 (v1 / 256))).setCell ⟨b, o + k + 3, none⟩ (.int .u8 (v1 % 256))).setCell ⟨b, o + k + 4, none⟩ (.int .u8 (v2 / 256))).setCell ⟨b, o + k + 5, none⟩ (.int .u8 (v2 % 256))).setCell ⟨b, o + k + 6, none⟩ (.int .u8 (v3 / 256))).setCell ⟨b, o + k + 7, none⟩ (.int .u8 (v3 % 256))).heap[b]? = some (.cells ((((((((ms.setIfInBounds (o + k) (.int .u8 (v0 / 256))).setIfInBounds (o + k + 1) (.int .u8 (v0 % 256))).setIfInBounds (o + k + 2) (.int .u8 (v1 / 256))).setIfInBounds (o + k + 3) (.int .u8 (v1 % 256))).setIfInBounds (o + k + 4) (.int .u8 (v2 / 256))).setIfInBounds (o + k + 5) (.int .u8 (v2 % 256))).setIfInBounds (o + k + 6) (.int .u8 (v3 / 256))).setIfInBounds (o + k + 7) (.int .u8 (v3 % 256))) 5 (0, 0)) := heap_setCell_same _ _ _ _ _ _ HH6
  have HI7 : w.grownBy (((((((((w1.drewN m).setCell ⟨b, o + k, none⟩ (.int .u8 (v0 / 256))).setCell ⟨b, o + k + 1, none⟩ (.int .u8 (v0 % 256))).setCell ⟨b, o + k + 2, none⟩ (.int .u8 (v1 / 256))).setCell ⟨b, o + k + 3, none⟩ (.int .u8 (v1 % 256))).setCell ⟨b, o + k + 4, none⟩ (.int .u8 (v2 / 256))).setCell ⟨b, o + k + 5, none⟩ (.int .u8 (v2 % 256))).setCell ⟨b, o + k + 6, none⟩ (.int .u8 (v3 / 256))).setCell ⟨b, o + k + 7, none⟩ (.int .u8 (v3 % 256))) (some b) := grown_setCell (g := b) (p := ⟨b, o + k + 7, none⟩) HI6 (Or.inl rfl) _
  have HH : Hid ((((((((((w1.drewN m).setCell ⟨b, o + k, none⟩ (.int .u8 (v0 / 256))).setCell ⟨b, o + k + 1, none⟩ (.int .u8 (v0 % 256))).setCell ⟨b, o + k + 2, none⟩ (.int .u8 (v1 / 256))).setCell ⟨b, o + k + 3, none⟩ (.int .u8 (v1 % 256))).setCell ⟨b, o + k + 4, none⟩ (.int .u8 (v2 / 256))).setCell ⟨b, o + k + 5, none⟩ (.int .u8 (v2 % 256))).setCell ⟨b, o + k + 6, none⟩ (.int .u8 (v3 / 256))).setCell ⟨b, o + k + 7, none⟩ (.int .u8 (v3 % 256))).heap[b]? = some (.cells (put8 ms (o + k) v0 v1 v2 v3) 5 (0, 0))) := HH7
  have HGR := Lib.hid HI7
  clear HH0 HI0 HH1 HI1 HH2 HI2 HH3 HI3 HH4 HI4 HH5 HI5 HH6 HI6 HH7 HI7
  go_wp2
  go_end0
  exact ⟨rfl, HH.out, HGR.out⟩

end Go.Proofs.Ythpgfmgjfadjhaa
