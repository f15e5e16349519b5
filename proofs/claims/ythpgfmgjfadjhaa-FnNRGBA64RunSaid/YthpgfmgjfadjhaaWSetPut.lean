/- bytes.Clone, Put, putWide; impl.NRGBA64Set at a pixel. -/
import Derived.Test.YthpgfmgjfadjhaaWSetIn
namespace Go.Proofs.Ythpgfmgjfadjhaa
open Go.RowKit
set_option linter.unusedVariables false

theorem clone_any (ad : Addr) (c : Nat) (zs : List Int) (w : World) (hr : Reads w (some ad) zs) (hl : Small zs) :
    Calls Try.prog 30 #[.slice (some ad) zs.length c] w (BytesBack zs w) := by
  obtain ⟨i0, hi, hz0, hz1, hz2⟩ := info_parts info5
  have H1 := Lib.hid (bytes_news (hr.below ((Below.refl _ _).alloc (Nat.le_refl _) (.cells #[] 5))))
  have H2 := Lib.hid (bytes_one zs)
  have H3 : Hid (0 + zs.length ≤ maxLen) := by unfold Small at hl; unfold Hid maxLen; omega
  have H4 : Hid ((0 + zs.length) * 1 ≤ 140737488355328) := by unfold Small at hl; unfold Hid; omega
  have q22 : ∀ (w : World) (a : Option Addr) (n c n' c' : Nat), (binOp .eql 24 (.slice a n c) (.slice none n' c')).run Try.prog w = .ok (.bool a.isNone) w := fun w a n c n' c' => Lib.run_eql_slice_nil w _ _ a n c n' c' Try.underlying24
  clear hr hl
  go_enter Try.func30, Try.ntmps30
  go_wp2_with (at_builtin; refine wpList_append_own _ rfl _ _ 24 rfl w.heap.size 5 i0 (.int .u8 0) 1 1 Try.underlying24 hi hz0 hz1 hz2 rfl (by decide) (.slice (some ⟨w.heap.size, 0, none⟩) 0 0) 0 [] rfl (World.ownsRow_made w #[] 0 (Nat.le_refl _) (Nat.zero_le _) rfl) ad zs.length c (zs.map (Value.int .u8)) rfl (by simp) H1.out H2.out H3.out H4.out (by simp) ?_; intro v1 w1 hown hg hnil)
  go_ret
  simp only [Nat.zero_add, List.nil_append] at hown
  obtain ⟨A, c', rfl⟩ := own_form hown
  exact ⟨A, c', rfl, hown, ((Below.refl _ _).alloc (Nat.le_refl _) _).grown hg (by simp) (by simp [Value.ownBlock])⟩

theorem same_any' (x0 y0 x1 y1 s : Int) (A B : Option Addr) (c d n : Nat) (zs : List Int) (w : World) (hn : n = zs.length) (ha : Hid (Reads w A zs)) (hb : Hid (Reads w B zs)) :
    Calls Try.prog 26 #[.agg #[.int .i64 x0, .int .i64 y0, .int .i64 x1, .int .i64 y1, .int .i64 s, .slice A zs.length c], .agg #[.int .i64 x0, .int .i64 y0, .int .i64 x1, .int .i64 y1, .int .i64 s, .slice B n d]] w fun e w' => e = .returned (.bool true) ∧ Below w.heap.size w w' := by
  subst hn
  exact same_any x0 y0 x1 y1 s A B c d zs w ha hb

theorem put_any (b o n c k : Nat) (ms : Array Value) (v : Int) (w : World) (hb : w.heap[b]? = some (.cells ms 5 (0, 0))) (hsz : o + n ≤ ms.size) (hk : (k : Int) + 1 < n) (hn : (n : Int) ≤ 140737488351232) (h0 : 0 ≤ v) (h1 : v ≤ 65535) :
    Calls Try.prog 55 #[.slice (some ⟨b, o, none⟩) n c, .int .i64 k, .int .u16 v] w fun e w' => e = .returned (.tuple #[]) ∧ w'.heap[b]? = some (.cells (put2 ms (o + k) v) 5 (0, 0)) ∧ w.grownBy w' (some b) := by
  obtain ⟨u0, hu0⟩ : ∃ u, ms[o + k]? = some u := ⟨_, Array.getElem?_eq_getElem (by omega)⟩
  obtain ⟨u1, hu1⟩ : ∃ u, ms[o + (k + 1)]? = some u := ⟨_, Array.getElem?_eq_getElem (by omega)⟩
  have c0 : w.cell? ⟨b, o + k, none⟩ = some u0 := (cell_of_row w b _ _ _ _ hb).trans hu0
  have c1 : w.cell? ⟨b, o + (k + 1), none⟩ = some u1 := (cell_of_row w b _ _ _ _ hb).trans hu1
  have d0 := frozen_of_row w b (o + k) _ _ hb
  have d1 := frozen_of_row w b (o + (k + 1)) _ _ hb
  have HH : Hid (((w.setCell ⟨b, o + k, none⟩ (.int .u8 (v / 256))).setCell ⟨b, o + (k + 1), none⟩ (.int .u8 (v % 256))).heap[b]? = some (.cells (put2 ms (o + k) v) 5 (0, 0))) := heap_setCell_same _ _ _ _ _ _ (heap_setCell_same _ _ _ _ _ _ hb)
  have HGR : Hid (w.grownBy ((w.setCell ⟨b, o + k, none⟩ (.int .u8 (v / 256))).setCell ⟨b, o + (k + 1), none⟩ (.int .u8 (v % 256))) (some b)) := grown_setCell (g := b) (p := ⟨b, o + (k + 1), none⟩) (grown_setCell (g := b) (p := ⟨b, o + k, none⟩) (grown_of (Below.refl _ _)) (Or.inl rfl) _) (Or.inl rfl) _
  clear hb hu0 hu1
  have i0 : (0 : Int) ≤ (k : Int) := by omega
  have i1 : (k : Int) < (n : Int) := by omega
  have i2 : (0 : Int) ≤ (k : Int) + 1 := by omega
  have i4 : ((k : Int) + 1).toNat = k + 1 := by omega
  have i3 : IntKind.i64.wrap ((k : Int) + 1) = (k : Int) + 1 := IntWalk.i64_in _ (by omega)
  go_enter Try.func55, Try.ntmps55
  go_wp2
  go_end0
  exact ⟨rfl, HH.out, HGR.out⟩

set_option maxRecDepth 100000 in
set_option maxHeartbeats 2000000 in
theorem implSet_in (x0 y0 x1 y1 s x y v0 v1 v2 v3 : Int) (A : Option Addr) (c k : Nat) (zs : List Int) (w : World) (hr : Hid (Reads w A zs)) (hl : Small zs) (hn : Hid (A = none → c = 0))
    (hI : Hid (Insd x0 y0 x1 y1 x y)) (HK : Hid ((y - y0) * s + (x - x0) * 8 = k)) (b1 : -4398046511104 ≤ y - y0) (b2 : y - y0 ≤ 4398046511104) (b3 : -4398046511104 ≤ x - x0) (b4 : x - x0 ≤ 4398046511104)
    (p1 : -2305843009213693952 ≤ (y - y0) * s) (p2 : (y - y0) * s ≤ 2305843009213693952) (hk : Hid (k + 8 ≤ zs.length)) (h0 : 0 ≤ v0) (h1 : v0 ≤ 65535) (h2 : 0 ≤ v1) (h3 : v1 ≤ 65535) (h4 : 0 ≤ v2) (h5 : v2 ≤ 65535) (h6 : 0 ≤ v3) (h7 : v3 ≤ 65535) :
    Calls Try.prog 27 #[.agg #[.int .i64 x0, .int .i64 y0, .int .i64 x1, .int .i64 y1, .int .i64 s, .slice A zs.length c], .int .i64 x, .int .i64 y, .agg #[.int .u16 v0, .int .u16 v1, .int .u16 v2, .int .u16 v3]] w (DeepBack (putW zs k v0 v1 v2 v3) s x0 y0 x1 y1 w) := by
  go_enter Try.func27, Try.ntmps27
  go_wp2_with fail
  refine (to_any x0 y0 x1 y1 s A c zs _ (hr.out.below ((((Below.refl _ _).alloc (Nat.le_refl _) _).alloc (by simp) _).alloc (by simp; omega) _)) hl hn.out).mono ?_
  rintro e w1 ⟨g, A', c', rfl, hgb, hg, hown, hb1⟩
  have HG := Lib.hid hg
  have HO := Lib.hid hown
  obtain ⟨hc1, hf1⟩ := bcell hb1
  have hz1 : w.heap.size + 2 < w1.heap.size := by have := hb1.size; simp at this; omega
  have hB1 : Below w.heap.size w w1 := ((((Below.refl _ _).alloc (Nat.le_refl _) _).alloc (by simp) _).alloc (by simp; omega) _).trans (hb1.mono (by simp; omega))
  have r0 : w1.cell? ⟨w.heap.size + 2, 0, none⟩ = some (.int .i64 0) := (hc1 _ 0 (by first | (simp; done) | (simp; omega))).trans (by first | (simp; done) | go_simp)
  have r1 : w1.cell? ⟨w.heap.size + 2, 1, none⟩ = some (.int .i64 0) := (hc1 _ 1 (by first | (simp; done) | (simp; omega))).trans (by first | (simp; done) | go_simp)
  have r2 : w1.cell? ⟨w.heap.size + 2, 2, none⟩ = some (.int .i64 0) := (hc1 _ 2 (by first | (simp; done) | (simp; omega))).trans (by first | (simp; done) | go_simp)
  have r3 : w1.cell? ⟨w.heap.size + 2, 3, none⟩ = some (.int .i64 0) := (hc1 _ 3 (by first | (simp; done) | (simp; omega))).trans (by first | (simp; done) | go_simp)
  have r4 : w1.cell? ⟨w.heap.size + 2, 4, none⟩ = some (.int .i64 0) := (hc1 _ 4 (by first | (simp; done) | (simp; omega))).trans (by first | (simp; done) | go_simp)
  have r5 : w1.cell? ⟨w.heap.size + 2, 5, none⟩ = some (.slice none 0 0) := (hc1 _ 5 (by first | (simp; done) | (simp; omega))).trans (by first | (simp; done) | go_simp)
  have u0 : w1.cell? ⟨w.heap.size + 1, 0, none⟩ = some (.int .u16 v0) := (hc1 _ 0 (by first | (simp; done) | (simp; omega))).trans (by first | (simp; done) | go_simp)
  have u1 : w1.cell? ⟨w.heap.size + 1, 1, none⟩ = some (.int .u16 v1) := (hc1 _ 1 (by first | (simp; done) | (simp; omega))).trans (by first | (simp; done) | go_simp)
  have u2 : w1.cell? ⟨w.heap.size + 1, 2, none⟩ = some (.int .u16 v2) := (hc1 _ 2 (by first | (simp; done) | (simp; omega))).trans (by first | (simp; done) | go_simp)
  have u3 : w1.cell? ⟨w.heap.size + 1, 3, none⟩ = some (.int .u16 v3) := (hc1 _ 3 (by first | (simp; done) | (simp; omega))).trans (by first | (simp; done) | go_simp)
  have fz : ∀ i, w1.frozen? ⟨w.heap.size + 2, i, none⟩ = false := fun i => (hf1 _ i (by first | (simp; done) | (simp; omega))).trans (by first | (simp; done) | go_simp)
  have FZ := Lib.hid fz
  clear hg hown hb1 hc1 hf1 fz
  go_wp2_with fail
  obtain ⟨bb, ms, rfl, hbb, hmb, hms, hmc, htk⟩ := own_block HO.out (by have := hk.out; omega)
  have HMB := Lib.hid hmb
  have hkn : (k : Int) + 8 ≤ zs.length := by have := hk.out; omega
  have hln : (zs.length : Int) ≤ 140737488351232 := by unfold Small at hl; omega
  have hbw : w.heap.size + 2 < bb := by simp at hbb; omega
  clear hmb
  refine (set_in g bb 0 zs.length c' k ms s x0 y0 x1 y1 x y v0 v1 v2 v3 _ HG.out HMB.out (by omega) hI HK b1 b2 b3 b4 p1 p2 hkn hln (by omega) h0 h1 h2 h3 h4 h5 h6 h7).mono ?_
  rintro e w2 ⟨rfl, hmb2, hgr⟩
  simp only [Nat.zero_add] at hmb2
  have hne := block_ne HG.out HMB.out (by decide)
  have HG2 := Lib.hid (grown_heap hgr HG.out (fun e => hne (by injection e)))
  have HO2 := Lib.hid (own_put8 HO.out HMB.out hmb2)
  have hb2 : Below bb w1 w2 := ⟨hgr.os, hgr.tape, hgr.output, hgr.size, fun i hi => hgr.block i (by have := heap_lt HMB.out; omega) (fun e => by injection e with e; omega)⟩
  clear hmb2 hgr
  go_wp2_with fail
  have HO2' : Hid (w2.ownsRow (w.heap.size + 1 + 1 + 1) 5 1 (.slice (some ⟨bb, 0, none⟩) (putW zs k v0 v1 v2 v3).length c') (putW zs k v0 v1 v2 v3).length ((putW zs k v0 v1 v2 v3).map (Value.int .u8))) := by unfold Hid; rw [putW_length]; simpa using HO2.out
  have hl' : Small (putW zs k v0 v1 v2 v3) := by unfold Small; rw [putW_length]; exact hl
  have HG2' : Hid (w2.heap[g]? = some (.cells #[.slice (some ⟨bb, 0, none⟩) (putW zs k v0 v1 v2 v3).length c', .int .i64 s, .int .i64 x0, .int .i64 y0, .int .i64 x1, .int .i64 y1] 100 (0, 0))) := by rw [putW_length]; exact HG2.out
  refine (of_any g _ c' (putW zs k v0 v1 v2 v3) s x0 y0 x1 y1 _ HG2'.out (Reads.of_own HO2'.out) hl' (own_nil HO2'.out)).mono ?_
  rintro e w3 ⟨A3, c3, rfl, hown3, hb3⟩
  have hB23 : Below bb w1 w3 := hb2.trans (hb3.mono (by have := heap_lt HMB.out; have := hb2.size; omega))
  have hB3 : Below w.heap.size w w3 := hB1.trans (hB23.mono (by omega))
  have hz3 : w.heap.size + 2 < w2.heap.size := by have := hb2.size; omega
  replace r0 := (hB23.cell (p := ⟨w.heap.size + 2, 0, none⟩) hbw).trans r0
  replace r1 := (hB23.cell (p := ⟨w.heap.size + 2, 1, none⟩) hbw).trans r1
  replace r2 := (hB23.cell (p := ⟨w.heap.size + 2, 2, none⟩) hbw).trans r2
  replace r3 := (hB23.cell (p := ⟨w.heap.size + 2, 3, none⟩) hbw).trans r3
  replace r4 := (hB23.cell (p := ⟨w.heap.size + 2, 4, none⟩) hbw).trans r4
  replace r5 := (hB23.cell (p := ⟨w.heap.size + 2, 5, none⟩) hbw).trans r5
  have f0 : w3.frozen? ⟨w.heap.size + 2, 0, none⟩ = false := (hB23.frozen (p := ⟨w.heap.size + 2, 0, none⟩) hbw).trans (FZ.out 0)
  have f1 : w3.frozen? ⟨w.heap.size + 2, 1, none⟩ = false := (hB23.frozen (p := ⟨w.heap.size + 2, 1, none⟩) hbw).trans (FZ.out 1)
  have f2 : w3.frozen? ⟨w.heap.size + 2, 2, none⟩ = false := (hB23.frozen (p := ⟨w.heap.size + 2, 2, none⟩) hbw).trans (FZ.out 2)
  have f3 : w3.frozen? ⟨w.heap.size + 2, 3, none⟩ = false := (hB23.frozen (p := ⟨w.heap.size + 2, 3, none⟩) hbw).trans (FZ.out 3)
  have f4 : w3.frozen? ⟨w.heap.size + 2, 4, none⟩ = false := (hB23.frozen (p := ⟨w.heap.size + 2, 4, none⟩) hbw).trans (FZ.out 4)
  have f5 : w3.frozen? ⟨w.heap.size + 2, 5, none⟩ = false := (hB23.frozen (p := ⟨w.heap.size + 2, 5, none⟩) hbw).trans (FZ.out 5)
  have HO3 := Lib.hid hown3
  clear hown3 hb2 hb3
  go_wp2
  refine bodyPost_ret (v := .agg #[.int .i64 x0, .int .i64 y0, .int .i64 x1, .int .i64 y1, .int .i64 s, .slice A3 (putW zs k v0 v1 v2 v3).length c3]) (by simp [results, Try.results27, go_sem, r0, r1, r2, r3, r4, r5]) rfl ⟨A3, c3, rfl, ?_, ?_⟩
  · refine ownsRow_base (base' := w2.heap.size) ?_ (by omega)
    exact ownsRow_setCell_below (ownsRow_setCell_below (ownsRow_setCell_below (ownsRow_setCell_below (ownsRow_setCell_below (ownsRow_setCell_below HO3.out hz3 _) hz3 _) hz3 _) hz3 _) hz3 _) hz3 _
  · exact (((((hB3.setCell (Nat.le_add_right _ 2) _).setCell (Nat.le_add_right _ 2) _).setCell (Nat.le_add_right _ 2) _).setCell (Nat.le_add_right _ 2) _).setCell (Nat.le_add_right _ 2) _).setCell (Nat.le_add_right _ 2) _


theorem put_at (b o n c k : Nat) (ms : Array Value) (v i : Int) (hi : (k : Int) = i) (w : World) (hb : w.heap[b]? = some (.cells ms 5 (0, 0))) (hsz : o + n ≤ ms.size) (hk : (k : Int) + 1 < n) (hn : (n : Int) ≤ 140737488351232) (h0 : 0 ≤ v) (h1 : v ≤ 65535) :
    Calls Try.prog 55 #[.slice (some ⟨b, o, none⟩) n c, .int .i64 i, .int .u16 v] w fun e w' => e = .returned (.tuple #[]) ∧ w'.heap[b]? = some (.cells (put2 ms (o + k) v) 5 (0, 0)) ∧ w.grownBy w' (some b) := by
  subst hi
  exact put_any b o n c k ms v w hb hsz hk hn h0 h1
theorem grown_trans {a w w' : World} {row : Option Nat} (h : a.grownBy w row) (h' : w.grownBy w' row) : a.grownBy w' row :=
  ⟨h'.os.trans h.os, h'.tape.trans h.tape, h'.output.trans h.output, Nat.le_trans h.size h'.size, fun i hi hne => (h'.block i (Nat.lt_of_lt_of_le hi h.size) hne).trans (h.block i hi hne)⟩
theorem grown_cell {w w' : World} {b : Nat} {p : Addr} {v : Value} (h : w.grownBy w' (some b)) (hc : w.cell? p = some v) (hne : ¬ p.block = b) : w'.cell? p = some v := by
  have hl := World.block_lt_of_cell? w _ hc
  have hb : w'.heap[p.block]? = w.heap[p.block]? := h.block p.block hl (fun e => hne (by injection e))
  rw [← hc]
  unfold World.cell?
  rw [hb]

set_option maxRecDepth 100000 in
set_option maxHeartbeats 2000000 in
theorem putWide_any (b o n c k : Nat) (ms : Array Value) (v0 v1 v2 v3 : Int) (w : World) (hb : w.heap[b]? = some (.cells ms 5 (0, 0))) (hsz : o + n ≤ ms.size) (hk : (k : Int) + 8 ≤ n) (hn : (n : Int) ≤ 140737488351232) (h0 : 0 ≤ v0) (h1 : v0 ≤ 65535) (h2 : 0 ≤ v1) (h3 : v1 ≤ 65535) (h4 : 0 ≤ v2) (h5 : v2 ≤ 65535) (h6 : 0 ≤ v3) (h7 : v3 ≤ 65535) :
    Calls Try.prog 31 #[.slice (some ⟨b, o, none⟩) n c, .int .i64 k, .agg #[.int .u16 v0, .int .u16 v1, .int .u16 v2, .int .u16 v3]] w fun e w' => e = .returned (.tuple #[]) ∧ w'.heap[b]? = some (.cells (put8 ms (o + k) v0 v1 v2 v3) 5 (0, 0)) ∧ w.grownBy w' (some b) := by
  have al : Below w.heap.size w (w.alloc (.cells #[.int .u16 v0, .int .u16 v1, .int .u16 v2, .int .u16 v3] 37)) := (Below.refl _ _).alloc (Nat.le_refl _) _
  have hbl := heap_lt hb
  have e0 : ¬ w.heap.size = b := by omega
  have M0 := Lib.hid (heap_kept hb al)
  have G0 := Lib.hid (grown_of (row := some b) al)
  have r00 : (w.alloc (.cells #[.int .u16 v0, .int .u16 v1, .int .u16 v2, .int .u16 v3] 37)).cell? ⟨w.heap.size, 0, none⟩ = some (.int .u16 v0) := by simp
  have r01 : (w.alloc (.cells #[.int .u16 v0, .int .u16 v1, .int .u16 v2, .int .u16 v3] 37)).cell? ⟨w.heap.size, 1, none⟩ = some (.int .u16 v1) := by simp
  have r02 : (w.alloc (.cells #[.int .u16 v0, .int .u16 v1, .int .u16 v2, .int .u16 v3] 37)).cell? ⟨w.heap.size, 2, none⟩ = some (.int .u16 v2) := by simp
  have r03 : (w.alloc (.cells #[.int .u16 v0, .int .u16 v1, .int .u16 v2, .int .u16 v3] 37)).cell? ⟨w.heap.size, 3, none⟩ = some (.int .u16 v3) := by simp
  have i0 : (0 : Int) ≤ (k : Int) := by omega
  have i2 : IntKind.i64.wrap ((k : Int) + 2) = (k : Int) + 2 := IntWalk.i64_in _ (by omega)
  have i4 : IntKind.i64.wrap ((k : Int) + 4) = (k : Int) + 4 := IntWalk.i64_in _ (by omega)
  have i6 : IntKind.i64.wrap ((k : Int) + 6) = (k : Int) + 6 := IntWalk.i64_in _ (by omega)
  clear hb al
  go_enter Try.func31, Try.ntmps31
  go_wp2_with fail
  refine (put_at b o n c k ms v0 _ (by first | rfl | omega) _ M0.out (by first | omega | (simp only [put2_size]; omega)) (by omega) hn h0 h1).mono ?_
  rintro e w1 ⟨rfl, hm1, hg1⟩
  have M1 := Lib.hid hm1
  have G1 := Lib.hid (grown_trans G0.out hg1)
  have r10 := (grown_cell hg1 r00 e0)
  have r11 := (grown_cell hg1 r01 e0)
  have r12 := (grown_cell hg1 r02 e0)
  have r13 := (grown_cell hg1 r03 e0)
  clear hm1 hg1 r00 r01 r02 r03
  go_wp2_with fail
  refine (put_at b o n c (k + 2) (put2 ms (o + k) v0) v1 _ (by first | rfl | omega) _ M1.out (by first | omega | (simp only [put2_size]; omega)) (by omega) hn h2 h3).mono ?_
  rintro e w2 ⟨rfl, hm2, hg2⟩
  have M2 := Lib.hid hm2
  have G2 := Lib.hid (grown_trans G1.out hg2)
  have r20 := (grown_cell hg2 r10 e0)
  have r21 := (grown_cell hg2 r11 e0)
  have r22 := (grown_cell hg2 r12 e0)
  have r23 := (grown_cell hg2 r13 e0)
  clear hm2 hg2 r10 r11 r12 r13
  go_wp2_with fail
  refine (put_at b o n c (k + 4) (put2 (put2 ms (o + k) v0) (o + k + 2) v1) v2 _ (by first | rfl | omega) _ M2.out (by first | omega | (simp only [put2_size]; omega)) (by omega) hn h4 h5).mono ?_
  rintro e w3 ⟨rfl, hm3, hg3⟩
  have M3 := Lib.hid hm3
  have G3 := Lib.hid (grown_trans G2.out hg3)
  have r30 := (grown_cell hg3 r20 e0)
  have r31 := (grown_cell hg3 r21 e0)
  have r32 := (grown_cell hg3 r22 e0)
  have r33 := (grown_cell hg3 r23 e0)
  clear hm3 hg3 r20 r21 r22 r23
  go_wp2_with fail
  refine (put_at b o n c (k + 6) (put2 (put2 (put2 ms (o + k) v0) (o + k + 2) v1) (o + k + 4) v2) v3 _ (by first | rfl | omega) _ M3.out (by first | omega | (simp only [put2_size]; omega)) (by omega) hn h6 h7).mono ?_
  rintro e w4 ⟨rfl, hm4, hg4⟩
  have M4 := Lib.hid hm4
  have G4 := Lib.hid (grown_trans G3.out hg4)
  have r40 := (grown_cell hg4 r30 e0)
  have r41 := (grown_cell hg4 r31 e0)
  have r42 := (grown_cell hg4 r32 e0)
  have r43 := (grown_cell hg4 r33 e0)
  clear hm4 hg4 r30 r31 r32 r33
  go_wp2
  go_end0
  exact ⟨rfl, M4.out, G4.out⟩

end Go.Proofs.Ythpgfmgjfadjhaa
