/- Contracts: ofGray16, bytes.Equal, bytes.Clone, sameDeep. -/
import Derived.Test.YtmhmahdojcajpaaImg2
import Derived.Test.YtmhmahdojcajpaaMem
import Derived.Laws.BytesArg
import Derived.BigRegion
namespace Go.Proofs.Ytmhmahdojcajpaa
open Go.RowKit
set_option linter.unusedVariables false

/-- What a call hands back that makes an image as plain data, with bytes of its own. -/
def DeepBack (zs : List Int) (s x0 y0 x1 y1 : Int) (w : World) (e : Ending) (w' : World) : Prop :=
  ∃ (A : Option Addr) (c : Nat), e = .returned (.agg #[.int .i64 x0, .int .i64 y0, .int .i64 x1, .int .i64 y1, .int .i64 s, .slice A zs.length c]) ∧ w'.ownsRow w.heap.size 5 1 (.slice A zs.length c) zs.length (zs.map (Value.int .u8)) ∧ Below w.heap.size w w'

theorem keepS6 {w W : World} {k q j : Nat} {u v0 v1 v2 v3 v4 v5 : Value} (hq : w.heap.size ≤ q) (hk : k ≠ q) (h : k < W.heap.size ∧ Below w.heap.size w W ∧ W.cell? ⟨k, 0, none⟩ = some v0 ∧ W.cell? ⟨k, 1, none⟩ = some v1 ∧ W.cell? ⟨k, 2, none⟩ = some v2 ∧ W.cell? ⟨k, 3, none⟩ = some v3 ∧ W.cell? ⟨k, 4, none⟩ = some v4 ∧ W.cell? ⟨k, 5, none⟩ = some v5) :
    k < (W.setCell ⟨q, j, none⟩ u).heap.size ∧ Below w.heap.size w (W.setCell ⟨q, j, none⟩ u) ∧ (W.setCell ⟨q, j, none⟩ u).cell? ⟨k, 0, none⟩ = some v0 ∧ (W.setCell ⟨q, j, none⟩ u).cell? ⟨k, 1, none⟩ = some v1 ∧ (W.setCell ⟨q, j, none⟩ u).cell? ⟨k, 2, none⟩ = some v2 ∧ (W.setCell ⟨q, j, none⟩ u).cell? ⟨k, 3, none⟩ = some v3 ∧ (W.setCell ⟨q, j, none⟩ u).cell? ⟨k, 4, none⟩ = some v4 ∧ (W.setCell ⟨q, j, none⟩ u).cell? ⟨k, 5, none⟩ = some v5 := by
  obtain ⟨hz, hB, c0, c1, c2, c3, c4, c5⟩ := h
  have f : ∀ i, (W.setCell ⟨q, j, none⟩ u).cell? ⟨k, i, none⟩ = W.cell? ⟨k, i, none⟩ := fun i => World.cell?_setCell_other W _ _ u (fun e => hk (by injection e with e; exact e.symm))
  exact ⟨by simpa [World.setCell] using hz, hB.setCell hq _, (f 0).trans c0, (f 1).trans c1, (f 2).trans c2, (f 3).trans c3, (f 4).trans c4, (f 5).trans c5⟩

theorem of_any (g : Nat) (A : Option Addr) (c : Nat) (zs : List Int) (s x0 y0 x1 y1 : Int) (w : World) (hg : w.heap[g]? = some (.cells #[.slice A zs.length c, .int .i64 s, .int .i64 x0, .int .i64 y0, .int .i64 x1, .int .i64 y1] 99 (0, 0))) (hr : Hid (Reads w A zs)) (hl : Small zs) (hn : Hid (A = none → c = 0)) :
    Calls Try.prog 51 #[.pointer (some ⟨g, 0, none⟩)] w (DeepBack zs s x0 y0 x1 y1 w) := by
  have HG := Lib.hid hg
  have g0 := cell_of_row w g 0 _ _ _ hg
  have g1 := cell_of_row w g 1 _ _ _ hg
  have g2 := cell_of_row w g 2 _ _ _ hg
  have g3 := cell_of_row w g 3 _ _ _ hg
  have g4 := cell_of_row w g 4 _ _ _ hg
  have g5 := cell_of_row w g 5 _ _ _ hg
  simp at g0 g1 g2 g3 g4 g5
  have hgl : g < w.heap.size := block_lt_of_cell g0
  clear hg HG
  have hgn : ¬ g = w.heap.size := by omega
  have hgm : ¬ w.heap.size = g := by omega
  go_enter Try.func51, Try.ntmps51
  go_wp2
  have S0 := keep6 (((Below.refl w.heap.size w).alloc (Nat.le_refl _) (.cells #[.int .i64 0, .int .i64 0, .int .i64 0, .int .i64 0, .int .i64 0, .slice none 0 0] 26)).drew) ⟨hgl, Below.refl _ _, g0, g1, g2, g3, g4, g5⟩
  go_region_held3 (fun w' => g < w'.heap.size ∧ Below w.heap.size w w' ∧ w'.cell? ⟨g, 0, none⟩ = some (.slice A zs.length c) ∧ w'.cell? ⟨g, 1, none⟩ = some (.int .i64 s) ∧ w'.cell? ⟨g, 2, none⟩ = some (.int .i64 x0) ∧ w'.cell? ⟨g, 3, none⟩ = some (.int .i64 y0) ∧ w'.cell? ⟨g, 4, none⟩ = some (.int .i64 x1) ∧ w'.cell? ⟨g, 5, none⟩ = some (.int .i64 y1))
    (first | with_reducible exact S3 | with_reducible exact S2 | with_reducible exact S1 | with_reducible exact S0)
    (first | (go_at_call 60; refine (rect_any x0 y0 x1 y1 _).mono ?_; rintro e w1 ⟨rfl, hb1⟩; have S1 := keep6 hb1 S0) | (go_at_call 58; refine (bytesOf_any A c zs _ ?_ hl hn.out).mono ?_; exact hr.out.below (heldB (by assumption)); rintro e w2 ⟨A', c', rfl, hown, hb2⟩; have S2 := keep6 hb2 S1; have S3 := keepS6 (j := 5) (u := .slice A' zs.length c') (Nat.le_refl _) hgn (keepS6 (j := 4) (u := .int .i64 s) (Nat.le_refl _) hgn (keepS6 (j := 3) (u := .int .i64 y1) (Nat.le_refl _) hgn (keepS6 (j := 2) (u := .int .i64 x1) (Nat.le_refl _) hgn (keepS6 (j := 1) (u := .int .i64 y0) (Nat.le_refl _) hgn (keepS6 (j := 0) (u := .int .i64 x0) (Nat.le_refl _) hgn S2))))); have hz1 : w.heap.size < w1.heap.size := (by have := hb1.size; simp at this; omega); have hz2 : w.heap.size < w2.heap.size := (by have := hb2.size; omega); have q0 : w2.cell? ⟨w.heap.size, 0, none⟩ = some (.int .i64 0) := ((bcell hb2).1 _ 0 hz1).trans (((bcell hb1).1 _ 0 (by simp)).trans (by simp)); have f0 : w2.frozen? ⟨w.heap.size, 0, none⟩ = false := ((bcell hb2).2 _ 0 hz1).trans (((bcell hb1).2 _ 0 (by simp)).trans (by simp)); have q1 : w2.cell? ⟨w.heap.size, 1, none⟩ = some (.int .i64 0) := ((bcell hb2).1 _ 1 hz1).trans (((bcell hb1).1 _ 1 (by simp)).trans (by simp)); have f1 : w2.frozen? ⟨w.heap.size, 1, none⟩ = false := ((bcell hb2).2 _ 1 hz1).trans (((bcell hb1).2 _ 1 (by simp)).trans (by simp)); have q2 : w2.cell? ⟨w.heap.size, 2, none⟩ = some (.int .i64 0) := ((bcell hb2).1 _ 2 hz1).trans (((bcell hb1).1 _ 2 (by simp)).trans (by simp)); have f2 : w2.frozen? ⟨w.heap.size, 2, none⟩ = false := ((bcell hb2).2 _ 2 hz1).trans (((bcell hb1).2 _ 2 (by simp)).trans (by simp)); have q3 : w2.cell? ⟨w.heap.size, 3, none⟩ = some (.int .i64 0) := ((bcell hb2).1 _ 3 hz1).trans (((bcell hb1).1 _ 3 (by simp)).trans (by simp)); have f3 : w2.frozen? ⟨w.heap.size, 3, none⟩ = false := ((bcell hb2).2 _ 3 hz1).trans (((bcell hb1).2 _ 3 (by simp)).trans (by simp)); have q4 : w2.cell? ⟨w.heap.size, 4, none⟩ = some (.int .i64 0) := ((bcell hb2).1 _ 4 hz1).trans (((bcell hb1).1 _ 4 (by simp)).trans (by simp)); have f4 : w2.frozen? ⟨w.heap.size, 4, none⟩ = false := ((bcell hb2).2 _ 4 hz1).trans (((bcell hb1).2 _ 4 (by simp)).trans (by simp)); have q5 : w2.cell? ⟨w.heap.size, 5, none⟩ = some (.slice none 0 0) := ((bcell hb2).1 _ 5 hz1).trans (((bcell hb1).1 _ 5 (by simp)).trans (by simp)); have f5 : w2.frozen? ⟨w.heap.size, 5, none⟩ = false := ((bcell hb2).2 _ 5 hz1).trans (((bcell hb1).2 _ 5 (by simp)).trans (by simp))))
  rename_i hS
  go_wp2
  refine bodyPost_ret (v := .agg #[.int .i64 x0, .int .i64 y0, .int .i64 x1, .int .i64 y1, .int .i64 s, .slice A' zs.length c']) ?_ rfl ?_
  · simp [results, Try.results51, go_sem, q0, q1, q2, q3, q4, q5]
  · refine ⟨A', c', rfl, ?_, hS.2.1⟩
    refine ownsRow_base (base' := w1.heap.size) ?_ (by omega)
    exact ownsRow_setCell_below (ownsRow_setCell_below (ownsRow_setCell_below (ownsRow_setCell_below (ownsRow_setCell_below (ownsRow_setCell_below hown hz1 _) hz1 _) hz1 _) hz1 _) hz1 _) hz1 _

/-- string(b) of a slice of bytes. -/
theorem Reads.conv {w : World} {A : Option Addr} {zs : List Int} (h : Reads w A zs) (c : Nat) : (convert 24 9 (.slice A zs.length c)).run Try.prog w = .ok (.string (strOfNums zs)) w := by
  rcases Nat.eq_zero_or_pos zs.length with h0 | hp
  · obtain rfl : zs = [] := List.eq_nil_of_length_eq_zero h0
    show (convert 24 9 (.slice A 0 c)).run Try.prog w = .ok (.string ByteArray.empty) w
    rw [run_convert_bytes_string w _ _ _ _ 0 c Try.underlying24 Try.underlying5 Try.underlying9]
    cases A <;> simp [Conv.bytesToString, loadCells]
    all_goals rfl
  · obtain ⟨b, o, rfl⟩ := h.addr hp
    exact run_convert_bytes_arg (P := Try.prog) w _ _ Try.underlying24 Try.underlying5 b o zs.length c zs rfl (fun i hi => h.cell hi) _ Try.underlying9

theorem equal_same (A B : Option Addr) (c d : Nat) (zs : List Int) (w : World) (ha : Reads w A zs) (hb : Reads w B zs) :
    Calls Try.prog 49 #[.slice A zs.length c, .slice B zs.length d] w fun e w' => e = .returned (.bool true) ∧ w = w' := by
  have k1 := ha.conv c
  have k2 := hb.conv d
  clear ha hb
  generalize strOfNums zs = t at *
  go_enter Try.func49, Try.ntmps49
  go_wp2
  go_ret
  exact ⟨by simp, rfl⟩

theorem same_any (x0 y0 x1 y1 s : Int) (A B : Option Addr) (c d : Nat) (zs : List Int) (w : World) (ha : Hid (Reads w A zs)) (hb : Hid (Reads w B zs)) :
    Calls Try.prog 26 #[.agg #[.int .i64 x0, .int .i64 y0, .int .i64 x1, .int .i64 y1, .int .i64 s, .slice A zs.length c], .agg #[.int .i64 x0, .int .i64 y0, .int .i64 x1, .int .i64 y1, .int .i64 s, .slice B zs.length d]] w fun e w' => e = .returned (.bool true) ∧ Below w.heap.size w w' := by
  go_enter Try.func26, Try.ntmps26
  go_wp2_with fail
  refine (equal_same A B c d zs _ (ha.out.below (((Below.refl _ _).alloc (Nat.le_refl _) _).alloc (by simp) _)) (hb.out.below (((Below.refl _ _).alloc (Nat.le_refl _) _).alloc (by simp) _))).mono ?_
  rintro e w1 ⟨rfl, rfl⟩
  go_wp2
  go_ret
  exact ⟨by simp, ((Below.refl _ _).alloc (Nat.le_refl _) _).alloc (by simp) _⟩

end Go.Proofs.Ytmhmahdojcajpaa
