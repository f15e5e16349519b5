/- bytes.Clone, Put; impl.Gray16Set at a pixel; the walk of the law FnGray16Set. -/
import Derived.Test.YtmhmahdojcajpaaWSetOutside
namespace Go.Proofs.Ytmhmahdojcajpaa
open Go.RowKit
set_option linter.unusedVariables false

theorem clone_any (ad : Addr) (c : Nat) (zs : List Int) (w : World) (hr : Reads w (some ad) zs) (hl : Small zs) :
    Calls Try.prog 28 #[.slice (some ad) zs.length c] w (BytesBack zs w) := by
  obtain ⟨i0, hi, hz0, hz1, hz2⟩ := info_parts info5
  have H1 := Lib.hid (bytes_news (hr.below ((Below.refl _ _).alloc (Nat.le_refl _) (.cells #[] 5))))
  have H2 := Lib.hid (bytes_one zs)
  have H3 : Hid (0 + zs.length ≤ maxLen) := by unfold Small at hl; unfold Hid maxLen; omega
  have H4 : Hid ((0 + zs.length) * 1 ≤ 140737488355328) := by unfold Small at hl; unfold Hid; omega
  have q22 : ∀ (w : World) (a : Option Addr) (n c n' c' : Nat), (binOp .eql 24 (.slice a n c) (.slice none n' c')).run Try.prog w = .ok (.bool a.isNone) w := fun w a n c n' c' => Lib.run_eql_slice_nil w _ _ a n c n' c' Try.underlying24
  clear hr hl
  go_enter Try.func28, Try.ntmps28
  go_wp2_with (at_builtin; refine wpList_append_own _ rfl _ _ 24 rfl w.heap.size 5 i0 (.int .u8 0) 1 1 Try.underlying24 hi hz0 hz1 hz2 rfl (by decide) (.slice (some ⟨w.heap.size, 0, none⟩) 0 0) 0 [] rfl (World.ownsRow_made w #[] 0 (Nat.le_refl _) (Nat.zero_le _) rfl) ad zs.length c (zs.map (Value.int .u8)) rfl (by simp) H1.out H2.out H3.out H4.out (by simp) ?_; intro v1 w1 hown hg hnil)
  go_ret
  simp only [Nat.zero_add, List.nil_append] at hown
  obtain ⟨A, c', rfl⟩ := own_form hown
  exact ⟨A, c', rfl, hown, ((Below.refl _ _).alloc (Nat.le_refl _) _).grown hg (by simp) (by simp [Value.ownBlock])⟩

theorem same_any' (x0 y0 x1 y1 s : Int) (A B : Option Addr) (c d n : Nat) (zs : List Int) (w : World) (hn : n = zs.length) (ha : Hid (Reads w A zs)) (hb : Hid (Reads w B zs)) :
    Calls Try.prog 26 #[.agg #[.int .i64 x0, .int .i64 y0, .int .i64 x1, .int .i64 y1, .int .i64 s, .slice A zs.length c], .agg #[.int .i64 x0, .int .i64 y0, .int .i64 x1, .int .i64 y1, .int .i64 s, .slice B n d]] w fun e w' => e = .returned (.bool true) ∧ Below w.heap.size w w' := by
  subst hn
  exact same_any x0 y0 x1 y1 s A B c d zs w ha hb

theorem put_any (b o n c k : Nat) (ms : Array Value) (v : Int) (w : World) (hb : w.heap[b]? = some (.cells ms 5 (0, 0))) (hsz : o + n ≤ ms.size) (hk : (k : Int) + 1 < n) (hn : (n : Int) ≤ 140737488351232) (h0 : 0 ≤ v) (h1 : v ≤ 65535) :
    Calls Try.prog 29 #[.slice (some ⟨b, o, none⟩) n c, .int .i64 k, .int .u16 v] w fun e w' => e = .returned (.tuple #[]) ∧ w'.heap[b]? = some (.cells (put2 ms (o + k) v) 5 (0, 0)) ∧ w.grownBy w' (some b) := by
  obtain ⟨u0, hu0⟩ : ∃ u, ms[o + k]? = some u := ⟨_, Array.getElem?_eq_getElem (by omega)⟩
  obtain ⟨u1, hu1⟩ : ∃ u, ms[o + (k + 1)]? = some u := ⟨_, Array.getElem?_eq_getElem (by omega)⟩
  have c0 : w.cell? ⟨b, o + k, none⟩ = some u0 := (cell_of_row w b _ _ _ _ hb).trans hu0
  have c1 : w.cell? ⟨b, o + (k + 1), none⟩ = some u1 := (cell_of_row w b _ _ _ _ hb).trans hu1
  have d0 := frozen_of_row w b (o + k) _ _ hb
  have d1 := frozen_of_row w b (o + (k + 1)) _ _ hb
  have HH : Hid (((w.setCell ⟨b, o + k, none⟩ (.int .u8 (v / 256))).setCell ⟨b, o + (k + 1), none⟩ (.int .u8 (v % 256))).heap[b]? = some (.cells (put2 ms (o + k) v) 5 (0, 0))) := heap_setCell_same _ _ _ _ _ _ (heap_setCell_same _ _ _ _ _ _ hb)
  have HGR : Hid (w.grownBy ((w.setCell ⟨b, o + k, none⟩ (.int .u8 (v / 256))).setCell ⟨b, o + (k + 1), none⟩ (.int .u8 (v % 256))) (some b)) := grown_setCell (g := b) (p := ⟨b, o + (k + 1), none⟩) (grown_setCell (g := b) (p := ⟨b, o + k, none⟩) (grown_of (Below.refl _ _)) (Or.inl rfl) _) (Or.inl rfl) _
  clear hb hu0 hu1
  have i0 : (0 : Int) ≤ (k : Int) := by omega
  have i1 : (k : Int) < (n : Int) := by omega
  have i2 : (0 : Int) ≤ (k : Int) + 1 := by omega
  have i4 : ((k : Int) + 1).toNat = k + 1 := by omega
  have i3 : IntKind.i64.wrap ((k : Int) + 1) = (k : Int) + 1 := IntWalk.i64_in _ (by omega)
  go_enter Try.func29, Try.ntmps29
  go_wp2
  go_end0
  exact ⟨rfl, HH.out, HGR.out⟩

theorem numAt_put {zs : List Int} {k : Nat} {v : Int} (hk : k + 1 < zs.length) : numAt (putL zs k v) k = v := by
  unfold numAt putL
  rw [List.getD_eq_getElem?_getD, List.getD_eq_getElem?_getD, List.getElem?_set, List.getElem?_set, List.getElem?_set]
  simp
  rw [if_pos (by omega), if_pos (by omega)]
  simp
  omega

/-- impl.Gray16Set at a pixel. -/
theorem implSet_in (x0 y0 x1 y1 s x y v : Int) (A : Option Addr) (c k : Nat) (zs : List Int) (w : World) (hr : Hid (Reads w A zs)) (hl : Small zs) (hn : Hid (A = none → c = 0))
    (hI : Hid (Insd x0 y0 x1 y1 x y)) (HK : Hid ((y - y0) * s + (x - x0) * 2 = k)) (b1 : -4398046511104 ≤ y - y0) (b2 : y - y0 ≤ 4398046511104) (b3 : -4398046511104 ≤ x - x0) (b4 : x - x0 ≤ 4398046511104)
    (p1 : -2305843009213693952 ≤ (y - y0) * s) (p2 : (y - y0) * s ≤ 2305843009213693952) (hk : Hid (k + 1 < zs.length)) (h0 : 0 ≤ v) (h1 : v ≤ 65535) :
    Calls Try.prog 27 #[.agg #[.int .i64 x0, .int .i64 y0, .int .i64 x1, .int .i64 y1, .int .i64 s, .slice A zs.length c], .int .i64 x, .int .i64 y, .int .u16 v] w (DeepBack (putL zs k v) s x0 y0 x1 y1 w) := by
  go_enter Try.func27, Try.ntmps27
  go_wp2_with fail
  refine (to_any x0 y0 x1 y1 s A c zs _ (hr.out.below (((Below.refl _ _).alloc (Nat.le_refl _) _).alloc (by simp) _)) hl hn.out).mono ?_
  rintro e w1 ⟨g, A', c', rfl, hgb, hg, hown, hb1⟩
  have HG := Lib.hid hg
  have HO := Lib.hid hown
  obtain ⟨hc1, hf1⟩ := bcell hb1
  have hz1 : w.heap.size + 1 < w1.heap.size := by have := hb1.size; simp at this; omega
  have hB1 : Below w.heap.size w w1 := (((Below.refl _ _).alloc (Nat.le_refl _) _).alloc (by simp) _).trans (hb1.mono (by simp; omega))
  have r0 : w1.cell? ⟨w.heap.size + 1, 0, none⟩ = some (.int .i64 0) := (hc1 _ 0 (by simp)).trans (by simp)
  have r1 : w1.cell? ⟨w.heap.size + 1, 1, none⟩ = some (.int .i64 0) := (hc1 _ 1 (by simp)).trans (by simp)
  have r2 : w1.cell? ⟨w.heap.size + 1, 2, none⟩ = some (.int .i64 0) := (hc1 _ 2 (by simp)).trans (by simp)
  have r3 : w1.cell? ⟨w.heap.size + 1, 3, none⟩ = some (.int .i64 0) := (hc1 _ 3 (by simp)).trans (by simp)
  have r4 : w1.cell? ⟨w.heap.size + 1, 4, none⟩ = some (.int .i64 0) := (hc1 _ 4 (by simp)).trans (by simp)
  have r5 : w1.cell? ⟨w.heap.size + 1, 5, none⟩ = some (.slice none 0 0) := (hc1 _ 5 (by simp)).trans (by simp)
  have fz : ∀ i, w1.frozen? ⟨w.heap.size + 1, i, none⟩ = false := fun i => (hf1 _ i (by simp)).trans (by simp)
  have FZ := Lib.hid fz
  clear hg hown hb1 hc1 hf1 fz
  go_wp2_with fail
  obtain ⟨bb, ms, rfl, hbb, hmb, hms, hmc, htk⟩ := own_block HO.out (by have := hk.out; omega)
  have HMB := Lib.hid hmb
  have hkn : (k : Int) + 1 < zs.length := by have := hk.out; omega
  have hln : (zs.length : Int) ≤ 140737488351232 := by unfold Small at hl; omega
  have hbw : w.heap.size + 1 < bb := by simp at hbb; omega
  clear hmb
  refine (set_in g bb 0 zs.length c' k ms s x0 y0 x1 y1 x y v _ HG.out HMB.out (by omega) hI HK b1 b2 b3 b4 p1 p2 hkn hln h0 h1).mono ?_
  rintro e w2 ⟨rfl, hmb2, hgr⟩
  simp only [Nat.zero_add] at hmb2
  have hne := block_ne HG.out HMB.out (by decide)
  have HG2 := Lib.hid (grown_heap hgr HG.out (fun e => hne (by injection e)))
  have HO2 := Lib.hid (own_put2 HO.out HMB.out hmb2)
  have hb2 : Below bb w1 w2 := ⟨hgr.os, hgr.tape, hgr.output, hgr.size, fun i hi => hgr.block i (by have := heap_lt HMB.out; omega) (fun e => by injection e with e; omega)⟩
  clear hmb2 hgr
  go_wp2_with fail
  have HO2' : Hid (w2.ownsRow (w.heap.size + 1 + 1) 5 1 (.slice (some ⟨bb, 0, none⟩) (putL zs k v).length c') (putL zs k v).length ((putL zs k v).map (Value.int .u8))) := by unfold Hid; rw [putL_length]; simpa using HO2.out
  have hl' : Small (putL zs k v) := by unfold Small; rw [putL_length]; exact hl
  have HG2' : Hid (w2.heap[g]? = some (.cells #[.slice (some ⟨bb, 0, none⟩) (putL zs k v).length c', .int .i64 s, .int .i64 x0, .int .i64 y0, .int .i64 x1, .int .i64 y1] 99 (0, 0))) := by rw [putL_length]; exact HG2.out
  refine (of_any g _ c' (putL zs k v) s x0 y0 x1 y1 _ HG2'.out (Reads.of_own HO2'.out) hl' (own_nil HO2'.out)).mono ?_
  rintro e w3 ⟨A3, c3, rfl, hown3, hb3⟩
  have hB23 : Below bb w1 w3 := hb2.trans (hb3.mono (by have := heap_lt HMB.out; have := hb2.size; omega))
  have hB3 : Below w.heap.size w w3 := hB1.trans (hB23.mono (by omega))
  have hz3 : w.heap.size + 1 < w2.heap.size := by have := hb2.size; omega
  replace r0 := (hB23.cell (p := ⟨w.heap.size + 1, 0, none⟩) hbw).trans r0
  replace r1 := (hB23.cell (p := ⟨w.heap.size + 1, 1, none⟩) hbw).trans r1
  replace r2 := (hB23.cell (p := ⟨w.heap.size + 1, 2, none⟩) hbw).trans r2
  replace r3 := (hB23.cell (p := ⟨w.heap.size + 1, 3, none⟩) hbw).trans r3
  replace r4 := (hB23.cell (p := ⟨w.heap.size + 1, 4, none⟩) hbw).trans r4
  replace r5 := (hB23.cell (p := ⟨w.heap.size + 1, 5, none⟩) hbw).trans r5
  have f0 : w3.frozen? ⟨w.heap.size + 1, 0, none⟩ = false := (hB23.frozen (p := ⟨w.heap.size + 1, 0, none⟩) hbw).trans (FZ.out 0)
  have f1 : w3.frozen? ⟨w.heap.size + 1, 1, none⟩ = false := (hB23.frozen (p := ⟨w.heap.size + 1, 1, none⟩) hbw).trans (FZ.out 1)
  have f2 : w3.frozen? ⟨w.heap.size + 1, 2, none⟩ = false := (hB23.frozen (p := ⟨w.heap.size + 1, 2, none⟩) hbw).trans (FZ.out 2)
  have f3 : w3.frozen? ⟨w.heap.size + 1, 3, none⟩ = false := (hB23.frozen (p := ⟨w.heap.size + 1, 3, none⟩) hbw).trans (FZ.out 3)
  have f4 : w3.frozen? ⟨w.heap.size + 1, 4, none⟩ = false := (hB23.frozen (p := ⟨w.heap.size + 1, 4, none⟩) hbw).trans (FZ.out 4)
  have f5 : w3.frozen? ⟨w.heap.size + 1, 5, none⟩ = false := (hB23.frozen (p := ⟨w.heap.size + 1, 5, none⟩) hbw).trans (FZ.out 5)
  have HO3 := Lib.hid hown3
  clear hown3 hb2 hb3
  go_wp2
  refine bodyPost_ret (v := .agg #[.int .i64 x0, .int .i64 y0, .int .i64 x1, .int .i64 y1, .int .i64 s, .slice A3 (putL zs k v).length c3]) (by simp [results, Try.results27, go_sem, r0, r1, r2, r3, r4, r5]) rfl ⟨A3, c3, rfl, ?_, ?_⟩
  · refine ownsRow_base (base' := w2.heap.size) ?_ (by omega)
    exact ownsRow_setCell_below (ownsRow_setCell_below (ownsRow_setCell_below (ownsRow_setCell_below (ownsRow_setCell_below (ownsRow_setCell_below HO3.out hz3 _) hz3 _) hz3 _) hz3 _) hz3 _) hz3 _
  · exact (((((hB3.setCell (Nat.le_succ _) _).setCell (Nat.le_succ _) _).setCell (Nat.le_succ _) _).setCell (Nat.le_succ _) _).setCell (Nat.le_succ _) _).setCell (Nat.le_succ _) _


theorem set_unfit (x0 y0 x1 y1 s x y v : Int) (A : Option Addr) (c : Nat) (zs : List Int) (w : World) (hr : Hid (Reads w A zs)) (hy : Hid (Bytes zs)) (hl : Small zs) (hn : Hid (A = none → c = 0)) (h0 : 0 ≤ v) (h1 : v ≤ 65535) (hF : Hid (¬ Fits x0 y0 x1 y1 s 2 zs.length)) :
    Calls Try.prog 8 #[.agg #[.int .i64 x0, .int .i64 y0, .int .i64 x1, .int .i64 y1, .int .i64 s, .slice A zs.length c], .int .i64 x, .int .i64 y, .int .u16 v] w fun e w' => e = .returned (.bool true) ∧ Below w.heap.size w w' := by
  go_enter Try.func8, Try.ntmps8
  go_wp2_with fail
  refine (fitsK_any x0 y0 x1 y1 s A c zs false (by simp [hF.out]) _).mono ?_
  rintro e w1 ⟨rfl, hb1⟩
  obtain ⟨hz1, hB1, c10, c11, c12, c13, c14, c15⟩ := keep6 hb1 (start6 w _ _ _ _ _ _ _ )
  clear hb1
  go_wp2
  go_ret
  exact ⟨by simp, hB1⟩

theorem setLaw_out (x0 y0 x1 y1 s x y v : Int) (A : Option Addr) (c : Nat) (zs : List Int) (w : World) (hr : Hid (Reads w A zs)) (hy : Hid (Bytes zs)) (hl : Small zs) (hn : Hid (A = none → c = 0)) (h0 : 0 ≤ v) (h1 : v ≤ 65535) (hF : Hid (Fits x0 y0 x1 y1 s 2 zs.length)) (hI : Hid (¬ Insd x0 y0 x1 y1 x y)) :
    Calls Try.prog 8 #[.agg #[.int .i64 x0, .int .i64 y0, .int .i64 x1, .int .i64 y1, .int .i64 s, .slice A zs.length c], .int .i64 x, .int .i64 y, .int .u16 v] w fun e w' => e = .returned (.bool true) ∧ Below w.heap.size w w' := by
  go_enter Try.func8, Try.ntmps8
  go_wp2_with fail
  refine (fitsK_any x0 y0 x1 y1 s A c zs true (by simp [hF.out]) _).mono ?_
  rintro e w1 ⟨rfl, hb1⟩
  obtain ⟨hz1, hB1, c10, c11, c12, c13, c14, c15⟩ := keep6 hb1 (start6 w _ _ _ _ _ _ _ )
  clear hb1
  go_wp2_with fail
  refine (inside_any x0 y0 x1 y1 x y false (by simp [hI.out]) _).mono ?_
  rintro e w2 ⟨rfl, hb2⟩
  obtain ⟨hz2, hB2, c20, c21, c22, c23, c24, c25⟩ := keep6 hb2 ⟨hz1, hB1, c10, c11, c12, c13, c14, c15⟩
  clear hb2 hz1 hB1 c10 c11 c12 c13 c14 c15
  go_wp2
  go_ret
  exact ⟨by simp, hB2⟩

theorem setLaw_in (x0 y0 x1 y1 s x y v : Int) (A : Option Addr) (c : Nat) (zs : List Int) (w : World) (hr : Hid (Reads w A zs)) (hy : Hid (Bytes zs)) (hl : Small zs) (hn : Hid (A = none → c = 0)) (h0 : 0 ≤ v) (h1 : v ≤ 65535) (hF : Hid (Fits x0 y0 x1 y1 s 2 zs.length)) (hI : Hid (Insd x0 y0 x1 y1 x y)) :
    Calls Try.prog 8 #[.agg #[.int .i64 x0, .int .i64 y0, .int .i64 x1, .int .i64 y1, .int .i64 s, .slice A zs.length c], .int .i64 x, .int .i64 y, .int .u16 v] w fun e w' => e = .returned (.bool true) ∧ Below w.heap.size w w' := by
  obtain ⟨b1, b2, b3, b4⟩ : -4398046511104 ≤ y - y0 ∧ y - y0 ≤ 4398046511104 ∧ -4398046511104 ≤ x - x0 ∧ x - x0 ≤ 4398046511104 := near_point hF.out hI.out
  obtain ⟨p1, p2⟩ : -2305843009213693952 ≤ (y - y0) * s ∧ (y - y0) * s ≤ 2305843009213693952 := (by have := hF.out.prods hI.out; omega)
  obtain ⟨k, hK, hk⟩ := hF.out.place (z := 2) rfl hI.out
  have HK := Lib.hid hK
  have Hk : Hid (k + 1 < zs.length) := by unfold Hid; omega
  have hkn : (k : Int) + 1 < zs.length := by omega
  have hln : (zs.length : Int) ≤ 140737488351232 := by unfold Small at hl; omega
  have PY := Lib.hid (putL_bytes hy.out k v h0 h1)
  have PN := Lib.hid (numAt_put (v := v) Hk.out)
  have hl' : Small (putL zs k v) := by unfold Small; rw [putL_length]; exact hl
  have Hk' : Hid (k + 1 < (putL zs k v).length) := by unfold Hid; rw [putL_length]; exact Hk.out
  have PL := Lib.hid (putL_length zs k v)
  clear hK hk
  obtain ⟨b, o, rfl⟩ := hr.out.addr (by have := Hk.out; omega)
  go_enter Try.func8, Try.ntmps8
  go_wp2_with fail
  refine (fitsK_any x0 y0 x1 y1 s _ c zs true (by simp [hF.out]) _).mono ?_
  rintro e w1 ⟨rfl, hb1⟩
  obtain ⟨hz1, hB1, c10, c11, c12, c13, c14, c15⟩ := keep6 hb1 (start6 w _ _ _ _ _ _ _ )
  clear hb1
  go_wp2_with fail
  refine (inside_any x0 y0 x1 y1 x y true (by simp [hI.out]) _).mono ?_
  rintro e w2 ⟨rfl, hb2⟩
  obtain ⟨hz2, hB2, c20, c21, c22, c23, c24, c25⟩ := keep6 hb2 ⟨hz1, hB1, c10, c11, c12, c13, c14, c15⟩
  clear hb2 hz1 hB1 c10 c11 c12 c13 c14 c15
  go_wp2_with fail
  refine (clone_any _ c zs _ (hr.out.below hB2) hl).mono ?_
  rintro e w3 ⟨A3, c3, rfl, hown3, hb3⟩
  obtain ⟨bb, ms, rfl, hbb, hmb, hms, hmc, htk⟩ := own_block hown3 (by have := Hk.out; omega)
  have HO3 := Lib.hid (ownsRow_base hown3 hB2.size)
  have HM3 := Lib.hid hmb
  have hbw : w.heap.size < bb := by omega
  obtain ⟨hz3, hB3, c30, c31, c32, c33, c34, c35⟩ := keep6 hb3 ⟨hz2, hB2, c20, c21, c22, c23, c24, c25⟩
  clear hb3 hz2 hB2 c20 c21 c22 c23 c24 c25
  clear hown3 hmb htk
  go_wp2_with fail
  refine (atK_any x0 y0 x1 y1 s x y _ c zs _ b1 b2 b3 b4 p1 p2).mono ?_
  rintro e w4 ⟨rfl, hb4⟩
  rw [HK.out]
  have HO4 := Lib.hid (ownsRow_below HO3.out hb4)
  have HM4 := Lib.hid (heap_kept HM3.out hb4)
  obtain ⟨hz4, hB4, c40, c41, c42, c43, c44, c45⟩ := keep6 hb4 ⟨hz3, hB3, c30, c31, c32, c33, c34, c35⟩
  clear hb4 hz3 hB3 c30 c31 c32 c33 c34 c35
  go_wp2_with fail
  refine (put_any bb 0 zs.length c3 k ms v _ HM4.out (by omega) hkn hln h0 h1).mono ?_
  rintro e w5 ⟨rfl, hmb5, hgr5⟩
  simp only [Nat.zero_add] at hmb5
  have HO5 := Lib.hid (own_put2 HO4.out HM4.out hmb5)
  have hb5 : Below bb w4 w5 := ⟨hgr5.os, hgr5.tape, hgr5.output, hgr5.size, fun i hi => hgr5.block i (by have := heap_lt HM4.out; omega) (fun e => by injection e with e; omega)⟩
  obtain ⟨hz5, hB5, c50, c51, c52, c53, c54, c55⟩ : w.heap.size < w5.heap.size ∧ Below w.heap.size w w5 ∧ w5.cell? ⟨w.heap.size, 0, none⟩ = some (.int .i64 x0) ∧ w5.cell? ⟨w.heap.size, 1, none⟩ = some (.int .i64 y0) ∧ w5.cell? ⟨w.heap.size, 2, none⟩ = some (.int .i64 x1) ∧ w5.cell? ⟨w.heap.size, 3, none⟩ = some (.int .i64 y1) ∧ w5.cell? ⟨w.heap.size, 4, none⟩ = some (.int .i64 s) ∧ w5.cell? ⟨w.heap.size, 5, none⟩ = some (.slice (some ⟨b, o, none⟩) zs.length c) :=
    ⟨by have := hb5.size; omega, hB4.trans (hb5.mono (by omega)), (hb5.cell (p := ⟨w.heap.size, 0, none⟩) hbw).trans c40, (hb5.cell (p := ⟨w.heap.size, 1, none⟩) hbw).trans c41, (hb5.cell (p := ⟨w.heap.size, 2, none⟩) hbw).trans c42, (hb5.cell (p := ⟨w.heap.size, 3, none⟩) hbw).trans c43, (hb5.cell (p := ⟨w.heap.size, 4, none⟩) hbw).trans c44, (hb5.cell (p := ⟨w.heap.size, 5, none⟩) hbw).trans c45⟩
  clear hb5 hgr5 hmb5 hz4 hB4 c40 c41 c42 c43 c44 c45
  go_wp2_with fail
  refine (implSet_in x0 y0 x1 y1 s x y v _ c k zs _ (hr.out.below hB5) hl hn hI HK b1 b2 b3 b4 p1 p2 Hk h0 h1).mono ?_
  rintro e w6 ⟨A6, c6, rfl, hown6, hb6⟩
  have HO6 := Lib.hid (ownsRow_below HO5.out hb6)
  have HR6 := Lib.hid (Reads.of_own hown6)
  have HN6 := Lib.hid (own_nil hown6)
  obtain ⟨hz6, hB6, c60, c61, c62, c63, c64, c65⟩ := keep6 hb6 ⟨hz5, hB5, c50, c51, c52, c53, c54, c55⟩
  clear hb6 hz5 hB5 c50 c51 c52 c53 c54 c55
  clear hown6
  have HW6 : Hid (Reads w6 (some ⟨bb, 0, none⟩) (putL zs k v)) := by
    have := HO6.out
    rw [← PL.out] at this
    exact Reads.of_own this
  go_wp2_with fail
  refine (same_any' x0 y0 x1 y1 s A6 (some ⟨bb, 0, none⟩) c6 c3 zs.length (putL zs k v) _ PL.out.symm (HR6.out.below ((Below.refl _ _).alloc (Nat.le_refl _) _)) (HW6.out.below ((Below.refl _ _).alloc (Nat.le_refl _) _))).mono ?_
  rintro e w7 ⟨rfl, hb7⟩
  have al : Below w6.heap.size w6 w7 := ((Below.refl _ _).alloc (Nat.le_refl _) _).trans (hb7.mono (by simp))
  have t0 : w7.cell? ⟨w6.heap.size, 0, none⟩ = some (.int .i64 x0) := ((bcell hb7).1 _ 0 (by simp)).trans (by simp)
  have t1 : w7.cell? ⟨w6.heap.size, 1, none⟩ = some (.int .i64 y0) := ((bcell hb7).1 _ 1 (by simp)).trans (by simp)
  have t2 : w7.cell? ⟨w6.heap.size, 2, none⟩ = some (.int .i64 x1) := ((bcell hb7).1 _ 2 (by simp)).trans (by simp)
  have t3 : w7.cell? ⟨w6.heap.size, 3, none⟩ = some (.int .i64 y1) := ((bcell hb7).1 _ 3 (by simp)).trans (by simp)
  have t4 : w7.cell? ⟨w6.heap.size, 4, none⟩ = some (.int .i64 s) := ((bcell hb7).1 _ 4 (by simp)).trans (by simp)
  have t5 : w7.cell? ⟨w6.heap.size, 5, none⟩ = some (.slice A6 (putL zs k v).length c6) := ((bcell hb7).1 _ 5 (by simp)).trans (by simp)
  have hB7 : Below w.heap.size w w7 := hB6.trans (al.mono hB6.size)
  clear hb7 hz6 hB6 c60 c61 c62 c63 c64 c65 HO3 HM3 HO4 HM4 HO5 HO6
  go_wp2_with fail
  refine (implAt_in x0 y0 x1 y1 s x y A6 c6 k (putL zs k v) _ (HR6.out.below al) PY hl' HN6 hI HK b1 b2 b3 b4 p1 p2 Hk').mono ?_
  rintro e w8 ⟨rfl, hb8⟩
  rw [PN.out]
  go_wp2
  go_ret
  exact ⟨by simp, hB7.trans (hb8.mono hB7.size)⟩

theorem walk_set (x0 y0 x1 y1 s x y v : Int) (A : Option Addr) (c : Nat) (zs : List Int) (w : World) (hr : Hid (Reads w A zs)) (hy : Hid (Bytes zs)) (hl : Small zs) (hn : Hid (A = none → c = 0)) (h0 : 0 ≤ v) (h1 : v ≤ 65535) :
    Calls Try.prog 8 #[.agg #[.int .i64 x0, .int .i64 y0, .int .i64 x1, .int .i64 y1, .int .i64 s, .slice A zs.length c], .int .i64 x, .int .i64 y, .int .u16 v] w fun e w' => e = .returned (.bool true) ∧ Below w.heap.size w w' := by
  by_cases hF : Fits x0 y0 x1 y1 s 2 zs.length
  · by_cases hI : Insd x0 y0 x1 y1 x y
    · exact setLaw_in x0 y0 x1 y1 s x y v A c zs w hr hy hl hn h0 h1 hF hI
    · exact setLaw_out x0 y0 x1 y1 s x y v A c zs w hr hy hl hn h0 h1 hF hI
  · exact set_unfit x0 y0 x1 y1 s x y v A c zs w hr hy hl hn h0 h1 hF

end Go.Proofs.Ytmhmahdojcajpaa
