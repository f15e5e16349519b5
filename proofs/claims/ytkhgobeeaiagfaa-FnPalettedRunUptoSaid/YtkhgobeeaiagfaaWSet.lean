/- The walk of the law FnPalettedSet. -/
import Derived.Test.YtkhgobeeaiagfaaSetQ
namespace Go.Proofs.Ytkhgobeeaiagfaa
open Go.RowKit
set_option linter.unusedVariables false
set_option linter.unusedSimpArgs false

theorem clone_any (ad : Addr) (c : Nat) (zs : List Int) (w : World) (hr : Reads w (some ad) zs) (hl : Small zs) :
    Calls Try.prog 28 #[.slice (some ad) zs.length c] w (BytesBack zs w) := by
  obtain ⟨i0, hi, hz0, hz1, hz2⟩ := info_parts info5
  have H1 := Lib.hid (bytes_news (hr.below ((Below.refl _ _).alloc (Nat.le_refl _) (.cells #[] 5))))
  have H2 := Lib.hid (bytes_one zs)
  have H3 : Hid (0 + zs.length ≤ maxLen) := by unfold Small at hl; unfold Hid maxLen; omega
  have H4 : Hid ((0 + zs.length) * 1 ≤ 140737488355328) := by unfold Small at hl; unfold Hid; omega
  have q22 : ∀ (w : World) (a : Option Addr) (n c n' c' : Nat), (binOp .eql 24 (.slice a n c) (.slice none n' c')).run Try.prog w = .ok (.bool a.isNone) w := fun w a n c n' c' => Lib.run_eql_slice_nil w _ _ a n c n' c' Try.underlying24
  clear hr hl
  go_enter Try.func28, Try.ntmps28
  go_wp2_with (at_builtin; refine wpList_append_own _ rfl _ _ 24 rfl w.heap.size 5 i0 (.int .u8 0) 1 1 Try.underlying24 hi hz0 hz1 hz2 rfl (by decide) (.slice (some ⟨w.heap.size, 0, none⟩) 0 0) 0 [] rfl (World.ownsRow_made w #[] 0 (Nat.le_refl _) (Nat.zero_le _) rfl) ad zs.length c (zs.map (Value.int .u8)) rfl (by simp) H1.out H2.out H3.out H4.out (by simp) ?_; intro v1 w1 hown hg hnil)
  go_ret
  simp only [Nat.zero_add, List.nil_append] at hown
  obtain ⟨A, c', rfl⟩ := own_form hown
  exact ⟨A, c', rfl, hown, ((Below.refl _ _).alloc (Nat.le_refl _) _).grown hg (by simp) (by simp [Value.ownBlock])⟩


set_option maxRecDepth 100000 in
set_option maxHeartbeats 2000000 in
theorem set_unfit (x0 y0 x1 y1 s : Int) (A : Option Addr) (c : Nat) (zs : List Int) (B : Option Addr) (k : Nat) (ps : List (Int × Int × Int × Int)) (x y v : Int) (w : World) (hr : Hid (Reads w A zs)) (hl : Small zs) (hn : Hid (A = none → c = 0)) (pr : Hid (PReads w B ps)) (pl : (ps.length : Int) ≤ 2097152) (hF : Hid (¬ Fits x0 y0 x1 y1 s 1 zs.length)) :
    Calls Try.prog 9 #[.agg #[.int .i64 x0, .int .i64 y0, .int .i64 x1, .int .i64 y1, .int .i64 s, .slice A zs.length c, .slice B ps.length k], .int .i64 x, .int .i64 y, .int .u8 v] w fun e w' => e = .returned (.bool true) ∧ Below w.heap.size w w' := by
  have hB : Below w.heap.size w (w.alloc (.cells #[.int .i64 x0, .int .i64 y0, .int .i64 x1, .int .i64 y1, .int .i64 s, .slice A zs.length c, .slice B ps.length k] 27)) := (Below.refl _ _).alloc (Nat.le_refl _) _
  have D0 : (w.alloc (.cells #[.int .i64 x0, .int .i64 y0, .int .i64 x1, .int .i64 y1, .int .i64 s, .slice A zs.length c, .slice B ps.length k] 27)).cell? ⟨w.heap.size, 0, none⟩ = some (.int .i64 x0) := by first | (simp; done) | go_simp
  have D1 : (w.alloc (.cells #[.int .i64 x0, .int .i64 y0, .int .i64 x1, .int .i64 y1, .int .i64 s, .slice A zs.length c, .slice B ps.length k] 27)).cell? ⟨w.heap.size, 1, none⟩ = some (.int .i64 y0) := by first | (simp; done) | go_simp
  have D2 : (w.alloc (.cells #[.int .i64 x0, .int .i64 y0, .int .i64 x1, .int .i64 y1, .int .i64 s, .slice A zs.length c, .slice B ps.length k] 27)).cell? ⟨w.heap.size, 2, none⟩ = some (.int .i64 x1) := by first | (simp; done) | go_simp
  have D3 : (w.alloc (.cells #[.int .i64 x0, .int .i64 y0, .int .i64 x1, .int .i64 y1, .int .i64 s, .slice A zs.length c, .slice B ps.length k] 27)).cell? ⟨w.heap.size, 3, none⟩ = some (.int .i64 y1) := by first | (simp; done) | go_simp
  have D4 : (w.alloc (.cells #[.int .i64 x0, .int .i64 y0, .int .i64 x1, .int .i64 y1, .int .i64 s, .slice A zs.length c, .slice B ps.length k] 27)).cell? ⟨w.heap.size, 4, none⟩ = some (.int .i64 s) := by first | (simp; done) | go_simp
  have D5 : (w.alloc (.cells #[.int .i64 x0, .int .i64 y0, .int .i64 x1, .int .i64 y1, .int .i64 s, .slice A zs.length c, .slice B ps.length k] 27)).cell? ⟨w.heap.size, 5, none⟩ = some (.slice A zs.length c) := by first | (simp; done) | go_simp
  have D6 : (w.alloc (.cells #[.int .i64 x0, .int .i64 y0, .int .i64 x1, .int .i64 y1, .int .i64 s, .slice A zs.length c, .slice B ps.length k] 27)).cell? ⟨w.heap.size, 6, none⟩ = some (.slice B ps.length k) := by first | (simp; done) | go_simp
  have HR := Lib.hid (hr.out.below hB)
  have HP := Lib.hid (pr.out.below hB)
  go_enter Try.func9, Try.ntmps9
  go_wp2_with fail
  generalize w.alloc (.cells #[.int .i64 x0, .int .i64 y0, .int .i64 x1, .int .i64 y1, .int .i64 s, .slice A zs.length c, .slice B ps.length k] 27) = W0 at *
  go_wp2_with fail
  refine (fitsK_any x0 y0 x1 y1 s A c zs B k ps false (by simp [hF.out]) _).mono ?_
  rintro e w1 ⟨rfl, hb1⟩
  replace D0 := cell_kept D0 hb1
  replace D1 := cell_kept D1 hb1
  replace D2 := cell_kept D2 hb1
  replace D3 := cell_kept D3 hb1
  replace D4 := cell_kept D4 hb1
  replace D5 := cell_kept D5 hb1
  replace D6 := cell_kept D6 hb1
  replace HR := Lib.hid (HR.out.below hb1)
  replace HP := Lib.hid (HP.out.below hb1)
  replace hB := hB.trans (hb1.mono hB.size)
  clear hb1
  go_wp2
  go_ret
  exact ⟨by simp, hB⟩

set_option maxRecDepth 100000 in
set_option maxHeartbeats 2000000 in
theorem set_out (x0 y0 x1 y1 s : Int) (A : Option Addr) (c : Nat) (zs : List Int) (B : Option Addr) (k : Nat) (ps : List (Int × Int × Int × Int)) (x y v : Int) (w : World) (hr : Hid (Reads w A zs)) (hl : Small zs) (hn : Hid (A = none → c = 0)) (pr : Hid (PReads w B ps)) (pl : (ps.length : Int) ≤ 2097152) (hF : Hid (Fits x0 y0 x1 y1 s 1 zs.length)) (hI : Hid (¬ Insd x0 y0 x1 y1 x y)) :
    Calls Try.prog 9 #[.agg #[.int .i64 x0, .int .i64 y0, .int .i64 x1, .int .i64 y1, .int .i64 s, .slice A zs.length c, .slice B ps.length k], .int .i64 x, .int .i64 y, .int .u8 v] w fun e w' => e = .returned (.bool true) ∧ Below w.heap.size w w' := by
  have hB : Below w.heap.size w (w.alloc (.cells #[.int .i64 x0, .int .i64 y0, .int .i64 x1, .int .i64 y1, .int .i64 s, .slice A zs.length c, .slice B ps.length k] 27)) := (Below.refl _ _).alloc (Nat.le_refl _) _
  have D0 : (w.alloc (.cells #[.int .i64 x0, .int .i64 y0, .int .i64 x1, .int .i64 y1, .int .i64 s, .slice A zs.length c, .slice B ps.length k] 27)).cell? ⟨w.heap.size, 0, none⟩ = some (.int .i64 x0) := by first | (simp; done) | go_simp
  have D1 : (w.alloc (.cells #[.int .i64 x0, .int .i64 y0, .int .i64 x1, .int .i64 y1, .int .i64 s, .slice A zs.length c, .slice B ps.length k] 27)).cell? ⟨w.heap.size, 1, none⟩ = some (.int .i64 y0) := by first | (simp; done) | go_simp
  have D2 : (w.alloc (.cells #[.int .i64 x0, .int .i64 y0, .int .i64 x1, .int .i64 y1, .int .i64 s, .slice A zs.length c, .slice B ps.length k] 27)).cell? ⟨w.heap.size, 2, none⟩ = some (.int .i64 x1) := by first | (simp; done) | go_simp
  have D3 : (w.alloc (.cells #[.int .i64 x0, .int .i64 y0, .int .i64 x1, .int .i64 y1, .int .i64 s, .slice A zs.length c, .slice B ps.length k] 27)).cell? ⟨w.heap.size, 3, none⟩ = some (.int .i64 y1) := by first | (simp; done) | go_simp
  have D4 : (w.alloc (.cells #[.int .i64 x0, .int .i64 y0, .int .i64 x1, .int .i64 y1, .int .i64 s, .slice A zs.length c, .slice B ps.length k] 27)).cell? ⟨w.heap.size, 4, none⟩ = some (.int .i64 s) := by first | (simp; done) | go_simp
  have D5 : (w.alloc (.cells #[.int .i64 x0, .int .i64 y0, .int .i64 x1, .int .i64 y1, .int .i64 s, .slice A zs.length c, .slice B ps.length k] 27)).cell? ⟨w.heap.size, 5, none⟩ = some (.slice A zs.length c) := by first | (simp; done) | go_simp
  have D6 : (w.alloc (.cells #[.int .i64 x0, .int .i64 y0, .int .i64 x1, .int .i64 y1, .int .i64 s, .slice A zs.length c, .slice B ps.length k] 27)).cell? ⟨w.heap.size, 6, none⟩ = some (.slice B ps.length k) := by first | (simp; done) | go_simp
  have HR := Lib.hid (hr.out.below hB)
  have HP := Lib.hid (pr.out.below hB)
  go_enter Try.func9, Try.ntmps9
  go_wp2_with fail
  generalize w.alloc (.cells #[.int .i64 x0, .int .i64 y0, .int .i64 x1, .int .i64 y1, .int .i64 s, .slice A zs.length c, .slice B ps.length k] 27) = W0 at *
  go_wp2_with fail
  refine (fitsK_any x0 y0 x1 y1 s A c zs B k ps true (by simp [hF.out]) _).mono ?_
  rintro e w1 ⟨rfl, hb1⟩
  replace D0 := cell_kept D0 hb1
  replace D1 := cell_kept D1 hb1
  replace D2 := cell_kept D2 hb1
  replace D3 := cell_kept D3 hb1
  replace D4 := cell_kept D4 hb1
  replace D5 := cell_kept D5 hb1
  replace D6 := cell_kept D6 hb1
  replace HR := Lib.hid (HR.out.below hb1)
  replace HP := Lib.hid (HP.out.below hb1)
  replace hB := hB.trans (hb1.mono hB.size)
  clear hb1
  go_wp2_with fail
  refine (inside_any x0 y0 x1 y1 x y false (by simp [hI.out]) _).mono ?_
  rintro e w2 ⟨rfl, hb2⟩
  replace D0 := cell_kept D0 hb2
  replace D1 := cell_kept D1 hb2
  replace D2 := cell_kept D2 hb2
  replace D3 := cell_kept D3 hb2
  replace D4 := cell_kept D4 hb2
  replace D5 := cell_kept D5 hb2
  replace D6 := cell_kept D6 hb2
  replace HR := Lib.hid (HR.out.below hb2)
  replace HP := Lib.hid (HP.out.below hb2)
  replace hB := hB.trans (hb2.mono hB.size)
  clear hb2
  go_wp2
  go_ret
  exact ⟨by simp, hB⟩

set_option maxRecDepth 100000 in
set_option maxHeartbeats 2000000 in
theorem set_in (x0 y0 x1 y1 s : Int) (A : Option Addr) (c : Nat) (zs : List Int) (B : Option Addr) (k : Nat) (ps : List (Int × Int × Int × Int)) (x y v : Int) (w : World) (hr : Hid (Reads w A zs)) (hl : Small zs) (hn : Hid (A = none → c = 0)) (pr : Hid (PReads w B ps)) (pl : (ps.length : Int) ≤ 2097152) (hF : Hid (Fits x0 y0 x1 y1 s 1 zs.length)) (hI : Hid (Insd x0 y0 x1 y1 x y)) :
    Calls Try.prog 9 #[.agg #[.int .i64 x0, .int .i64 y0, .int .i64 x1, .int .i64 y1, .int .i64 s, .slice A zs.length c, .slice B ps.length k], .int .i64 x, .int .i64 y, .int .u8 v] w fun e w' => e = .returned (.bool true) ∧ Below w.heap.size w w' := by
  obtain ⟨b1, b2, b3, b4⟩ : -4398046511104 ≤ y - y0 ∧ y - y0 ≤ 4398046511104 ∧ -4398046511104 ≤ x - x0 ∧ x - x0 ≤ 4398046511104 := near_point hF.out hI.out
  obtain ⟨p1, p2⟩ : -2305843009213693952 ≤ (y - y0) * s ∧ (y - y0) * s ≤ 2305843009213693952 := (by have := hF.out.prods hI.out; omega)
  obtain ⟨m, hK, hk'⟩ := hF.out.place (z := 1) rfl hI.out
  rw [Int.mul_one] at hK
  have HK := Lib.hid hK
  have hk : m < zs.length := by omega
  have HGT := Lib.hid (getD_set zs m v hk)
  have HL : Hid ((zs.set m v).length = zs.length) := List.length_set
  have hl' : Small (zs.set m v) := by unfold Small at *; rw [HL.out]; exact hl
  have HFz : Hid (Fits x0 y0 x1 y1 s 1 (zs.set m v).length) := by unfold Hid; rw [HL.out]; exact hF.out
  obtain ⟨z2, HZ2⟩ : ∃ z, Hid (zs.set m v = z) := ⟨_, rfl⟩
  rw [HZ2.out] at HL hl' HGT HFz
  obtain ⟨b, o, rfl⟩ := hr.out.addr (by omega)
  have hB : Below w.heap.size w (w.alloc (.cells #[.int .i64 x0, .int .i64 y0, .int .i64 x1, .int .i64 y1, .int .i64 s, .slice (some ⟨b, o, none⟩) zs.length c, .slice B ps.length k] 27)) := (Below.refl _ _).alloc (Nat.le_refl _) _
  have D0 : (w.alloc (.cells #[.int .i64 x0, .int .i64 y0, .int .i64 x1, .int .i64 y1, .int .i64 s, .slice (some ⟨b, o, none⟩) zs.length c, .slice B ps.length k] 27)).cell? ⟨w.heap.size, 0, none⟩ = some (.int .i64 x0) := by first | (simp; done) | go_simp
  have D1 : (w.alloc (.cells #[.int .i64 x0, .int .i64 y0, .int .i64 x1, .int .i64 y1, .int .i64 s, .slice (some ⟨b, o, none⟩) zs.length c, .slice B ps.length k] 27)).cell? ⟨w.heap.size, 1, none⟩ = some (.int .i64 y0) := by first | (simp; done) | go_simp
  have D2 : (w.alloc (.cells #[.int .i64 x0, .int .i64 y0, .int .i64 x1, .int .i64 y1, .int .i64 s, .slice (some ⟨b, o, none⟩) zs.length c, .slice B ps.length k] 27)).cell? ⟨w.heap.size, 2, none⟩ = some (.int .i64 x1) := by first | (simp; done) | go_simp
  have D3 : (w.alloc (.cells #[.int .i64 x0, .int .i64 y0, .int .i64 x1, .int .i64 y1, .int .i64 s, .slice (some ⟨b, o, none⟩) zs.length c, .slice B ps.length k] 27)).cell? ⟨w.heap.size, 3, none⟩ = some (.int .i64 y1) := by first | (simp; done) | go_simp
  have D4 : (w.alloc (.cells #[.int .i64 x0, .int .i64 y0, .int .i64 x1, .int .i64 y1, .int .i64 s, .slice (some ⟨b, o, none⟩) zs.length c, .slice B ps.length k] 27)).cell? ⟨w.heap.size, 4, none⟩ = some (.int .i64 s) := by first | (simp; done) | go_simp
  have D5 : (w.alloc (.cells #[.int .i64 x0, .int .i64 y0, .int .i64 x1, .int .i64 y1, .int .i64 s, .slice (some ⟨b, o, none⟩) zs.length c, .slice B ps.length k] 27)).cell? ⟨w.heap.size, 5, none⟩ = some (.slice (some ⟨b, o, none⟩) zs.length c) := by first | (simp; done) | go_simp
  have D6 : (w.alloc (.cells #[.int .i64 x0, .int .i64 y0, .int .i64 x1, .int .i64 y1, .int .i64 s, .slice (some ⟨b, o, none⟩) zs.length c, .slice B ps.length k] 27)).cell? ⟨w.heap.size, 6, none⟩ = some (.slice B ps.length k) := by first | (simp; done) | go_simp
  have HR := Lib.hid (hr.out.below hB)
  have HP := Lib.hid (pr.out.below hB)
  go_enter Try.func9, Try.ntmps9
  go_wp2_with fail
  generalize w.alloc (.cells #[.int .i64 x0, .int .i64 y0, .int .i64 x1, .int .i64 y1, .int .i64 s, .slice (some ⟨b, o, none⟩) zs.length c, .slice B ps.length k] 27) = W0 at *
  go_wp2_with fail
  refine (fitsK_any x0 y0 x1 y1 s _ c zs B k ps true (by simp [hF.out]) _).mono ?_
  rintro e w1 ⟨rfl, hb1⟩
  replace D0 := cell_kept D0 hb1
  replace D1 := cell_kept D1 hb1
  replace D2 := cell_kept D2 hb1
  replace D3 := cell_kept D3 hb1
  replace D4 := cell_kept D4 hb1
  replace D5 := cell_kept D5 hb1
  replace D6 := cell_kept D6 hb1
  replace HR := Lib.hid (HR.out.below hb1)
  replace HP := Lib.hid (HP.out.below hb1)
  replace hB := hB.trans (hb1.mono hB.size)
  clear hb1
  go_wp2_with fail
  refine (inside_any x0 y0 x1 y1 x y true (by simp [hI.out]) _).mono ?_
  rintro e w2 ⟨rfl, hb2⟩
  replace D0 := cell_kept D0 hb2
  replace D1 := cell_kept D1 hb2
  replace D2 := cell_kept D2 hb2
  replace D3 := cell_kept D3 hb2
  replace D4 := cell_kept D4 hb2
  replace D5 := cell_kept D5 hb2
  replace D6 := cell_kept D6 hb2
  replace HR := Lib.hid (HR.out.below hb2)
  replace HP := Lib.hid (HP.out.below hb2)
  replace hB := hB.trans (hb2.mono hB.size)
  clear hb2
  have hDl : w.heap.size < w2.heap.size := block_lt_of_cell D0
  go_wp2_with fail
  refine (clone_any _ c zs _ HR.out hl).mono ?_
  rintro e w3 ⟨A', c', rfl, ho, hb3⟩
  have HO := Lib.hid ho
  clear ho
  replace D0 := cell_kept D0 hb3
  replace D1 := cell_kept D1 hb3
  replace D2 := cell_kept D2 hb3
  replace D3 := cell_kept D3 hb3
  replace D4 := cell_kept D4 hb3
  replace D5 := cell_kept D5 hb3
  replace D6 := cell_kept D6 hb3
  replace HR := Lib.hid (HR.out.below hb3)
  replace HP := Lib.hid (HP.out.below hb3)
  replace hB := hB.trans (hb3.mono hB.size)
  clear hb3
  obtain ⟨bb, ms, rfl, hbb, hmb, hms, hmc, htk⟩ := own_block HO.out (by omega)
  have HMB := Lib.hid hmb
  clear hmb htk
  clear hmc
  have hDb : w.heap.size ≠ bb := by omega
  go_wp2_with fail
  refine (atK_any x0 y0 x1 y1 s _ c zs B k ps x y _ b1 b2 b3 b4 p1 p2).mono ?_
  rintro e w4 ⟨rfl, hb4⟩
  replace D0 := cell_kept D0 hb4
  replace D1 := cell_kept D1 hb4
  replace D2 := cell_kept D2 hb4
  replace D3 := cell_kept D3 hb4
  replace D4 := cell_kept D4 hb4
  replace D5 := cell_kept D5 hb4
  replace D6 := cell_kept D6 hb4
  replace HR := Lib.hid (HR.out.below hb4)
  replace HP := Lib.hid (HP.out.below hb4)
  replace HO := Lib.hid (ownsRow_below HO.out hb4)
  replace HMB := Lib.hid (heap_kept HMB.out hb4)
  replace hB := hB.trans (hb4.mono hB.size)
  clear hb4
  rw [HK.out]
  have i0 : (0 : Int) ≤ (m : Int) := by omega
  have i1 : (m : Int) < (zs.length : Int) := by omega
  obtain ⟨u0, hu0⟩ : ∃ u, ms[m]? = some u := ⟨_, Array.getElem?_eq_getElem (by omega)⟩
  have cc := (cell_of_row w4 bb m _ _ _ HMB.out).trans hu0
  have cf := frozen_of_row w4 bb m _ _ HMB.out
  clear hu0
  skip
  have hB' : Below w.heap.size w (w4.setCell ⟨bb, m, none⟩ (.int .u8 v)) := hB.setCell (by show w.heap.size ≤ bb; omega) _
  have HOs : Hid ((w4.setCell ⟨bb, m, none⟩ (.int .u8 v)).ownsRow _ 5 1 (.slice (some ⟨bb, 0, none⟩) zs.length c') zs.length ((zs.set m v).map (Value.int .u8))) := own_set1 HO.out HMB.out (heap_setCell_same _ _ _ _ _ _ HMB.out)
  have F0 := set_other (X := bb) (i := m) (b := .int .u8 v) hDb D0
  have F1 := set_other (X := bb) (i := m) (b := .int .u8 v) hDb D1
  have F2 := set_other (X := bb) (i := m) (b := .int .u8 v) hDb D2
  have F3 := set_other (X := bb) (i := m) (b := .int .u8 v) hDb D3
  have F4 := set_other (X := bb) (i := m) (b := .int .u8 v) hDb D4
  have F5 := set_other (X := bb) (i := m) (b := .int .u8 v) hDb D5
  have F6 := set_other (X := bb) (i := m) (b := .int .u8 v) hDb D6
  clear D0 D1 D2 D3 D4 D5 D6 HR HP
  rw [HZ2.out] at HOs
  rw [← HL.out] at HOs
  go_wp2_with fail
  generalize (w4.setCell ⟨bb, m, none⟩ (.int .u8 v)) = W6 at *
  clear cc cf HO HMB
  have hB := hB'
  skip
  replace hB := hB'
  clear hB'
  have HR := Lib.hid (hr.out.below hB)
  have HP := Lib.hid (pr.out.below hB)
  refine (implSet_in x0 y0 x1 y1 s _ c zs B k ps x y v _ HR hl hn HP pl m hI b1 b2 b3 b4 p1 p2 HK hk z2 HZ2).mono ?_
  rintro e w5 ⟨G1, h1, G2, h2, rfl, ho1, ho2, hb5⟩
  have HG1 := Lib.hid (Reads.of_own ho1)
  have HG2 := Lib.hid (PReads.of_own ho2)
  have HGn := Lib.hid (own_nil ho1)
  clear ho1 ho2
  replace F0 := cell_kept F0 hb5
  replace F1 := cell_kept F1 hb5
  replace F2 := cell_kept F2 hb5
  replace F3 := cell_kept F3 hb5
  replace F4 := cell_kept F4 hb5
  replace F5 := cell_kept F5 hb5
  replace F6 := cell_kept F6 hb5
  replace HR := Lib.hid (HR.out.below hb5)
  replace HP := Lib.hid (HP.out.below hb5)
  replace HOs := Lib.hid (ownsRow_below HOs.out hb5)
  replace hB := hB.trans (hb5.mono hB.size)
  clear hb5
  have aw : Below w5.heap.size w5 (w5.alloc (.cells #[.int .i64 x0, .int .i64 y0, .int .i64 x1, .int .i64 y1, .int .i64 s, .slice G1 z2.length h1, .slice G2 ps.length h2] 27)) := (Below.refl _ _).alloc (Nat.le_refl _) _
  replace F0 := cell_kept F0 aw
  replace F1 := cell_kept F1 aw
  replace F2 := cell_kept F2 aw
  replace F3 := cell_kept F3 aw
  replace F4 := cell_kept F4 aw
  replace F5 := cell_kept F5 aw
  replace F6 := cell_kept F6 aw
  replace HR := Lib.hid (HR.out.below aw)
  replace HP := Lib.hid (HP.out.below aw)
  replace HOs := Lib.hid (ownsRow_below HOs.out aw)
  replace HG1 := Lib.hid (HG1.out.below aw)
  replace HG2 := Lib.hid (HG2.out.below aw)
  replace hB := hB.trans (aw.mono hB.size)
  have M0 : (w5.alloc (.cells #[.int .i64 x0, .int .i64 y0, .int .i64 x1, .int .i64 y1, .int .i64 s, .slice G1 z2.length h1, .slice G2 ps.length h2] 27)).cell? ⟨w5.heap.size, 0, none⟩ = some (.int .i64 x0) := by simp
  have M1 : (w5.alloc (.cells #[.int .i64 x0, .int .i64 y0, .int .i64 x1, .int .i64 y1, .int .i64 s, .slice G1 z2.length h1, .slice G2 ps.length h2] 27)).cell? ⟨w5.heap.size, 1, none⟩ = some (.int .i64 y0) := by simp
  have M2 : (w5.alloc (.cells #[.int .i64 x0, .int .i64 y0, .int .i64 x1, .int .i64 y1, .int .i64 s, .slice G1 z2.length h1, .slice G2 ps.length h2] 27)).cell? ⟨w5.heap.size, 2, none⟩ = some (.int .i64 x1) := by simp
  have M3 : (w5.alloc (.cells #[.int .i64 x0, .int .i64 y0, .int .i64 x1, .int .i64 y1, .int .i64 s, .slice G1 z2.length h1, .slice G2 ps.length h2] 27)).cell? ⟨w5.heap.size, 3, none⟩ = some (.int .i64 y1) := by simp
  have M4 : (w5.alloc (.cells #[.int .i64 x0, .int .i64 y0, .int .i64 x1, .int .i64 y1, .int .i64 s, .slice G1 z2.length h1, .slice G2 ps.length h2] 27)).cell? ⟨w5.heap.size, 4, none⟩ = some (.int .i64 s) := by simp
  have M5 : (w5.alloc (.cells #[.int .i64 x0, .int .i64 y0, .int .i64 x1, .int .i64 y1, .int .i64 s, .slice G1 z2.length h1, .slice G2 ps.length h2] 27)).cell? ⟨w5.heap.size, 5, none⟩ = some (.slice G1 z2.length h1) := by simp
  have M6 : (w5.alloc (.cells #[.int .i64 x0, .int .i64 y0, .int .i64 x1, .int .i64 y1, .int .i64 s, .slice G1 z2.length h1, .slice G2 ps.length h2] 27)).cell? ⟨w5.heap.size, 6, none⟩ = some (.slice G2 ps.length h2) := by simp
  have hltWA : w5.heap.size < (w5.alloc (.cells #[.int .i64 x0, .int .i64 y0, .int .i64 x1, .int .i64 y1, .int .i64 s, .slice G1 z2.length h1, .slice G2 ps.length h2] 27)).heap.size := by simp
  clear aw
  go_wp2_with fail
  generalize w5.alloc (.cells #[.int .i64 x0, .int .i64 y0, .int .i64 x1, .int .i64 y1, .int .i64 s, .slice G1 z2.length h1, .slice G2 ps.length h2] 27) = WA at *
  generalize w5.heap.size = ba at *
  have HWr := Lib.hid (Reads.of_own HOs.out)
  skip
  (rw [← HL.out])
  refine (same_any x0 y0 x1 y1 s G1 h1 z2 G2 h2 ps _ c' B k _ HG1 HWr HG2 HP pl).mono ?_
  rintro e w6 ⟨rfl, hb6⟩
  replace F0 := cell_kept F0 hb6
  replace F1 := cell_kept F1 hb6
  replace F2 := cell_kept F2 hb6
  replace F3 := cell_kept F3 hb6
  replace F4 := cell_kept F4 hb6
  replace F5 := cell_kept F5 hb6
  replace F6 := cell_kept F6 hb6
  replace M0 := cell_kept M0 hb6
  replace M1 := cell_kept M1 hb6
  replace M2 := cell_kept M2 hb6
  replace M3 := cell_kept M3 hb6
  replace M4 := cell_kept M4 hb6
  replace M5 := cell_kept M5 hb6
  replace M6 := cell_kept M6 hb6
  replace HR := Lib.hid (HR.out.below hb6)
  replace HP := Lib.hid (HP.out.below hb6)
  replace HOs := Lib.hid (ownsRow_below HOs.out hb6)
  replace HG1 := Lib.hid (HG1.out.below hb6)
  replace HG2 := Lib.hid (HG2.out.below hb6)
  replace hB := hB.trans (hb6.mono hB.size)
  clear hb6
  go_wp2_with fail
  refine (implIndex_in x0 y0 x1 y1 s G1 h1 z2 G2 h2 ps x y _ HG1 hl' HGn HG2 pl m v hI b1 b2 b3 b4 p1 p2 HK (by have := HL.out; omega) HGT).mono ?_
  rintro e w7 ⟨rfl, hb7⟩
  replace F0 := cell_kept F0 hb7
  replace F1 := cell_kept F1 hb7
  replace F2 := cell_kept F2 hb7
  replace F3 := cell_kept F3 hb7
  replace F4 := cell_kept F4 hb7
  replace F5 := cell_kept F5 hb7
  replace F6 := cell_kept F6 hb7
  replace M0 := cell_kept M0 hb7
  replace M1 := cell_kept M1 hb7
  replace M2 := cell_kept M2 hb7
  replace M3 := cell_kept M3 hb7
  replace M4 := cell_kept M4 hb7
  replace M5 := cell_kept M5 hb7
  replace M6 := cell_kept M6 hb7
  replace HR := Lib.hid (HR.out.below hb7)
  replace HP := Lib.hid (HP.out.below hb7)
  replace HOs := Lib.hid (ownsRow_below HOs.out hb7)
  replace HG1 := Lib.hid (HG1.out.below hb7)
  replace HG2 := Lib.hid (HG2.out.below hb7)
  replace hB := hB.trans (hb7.mono hB.size)
  clear hb7
  go_wp2
  go_ret
  exact ⟨by simp, hB⟩

theorem walk_set (x0 y0 x1 y1 s : Int) (A : Option Addr) (c : Nat) (zs : List Int) (B : Option Addr) (k : Nat) (ps : List (Int × Int × Int × Int)) (x y v : Int) (w : World) (hr : Hid (Reads w A zs)) (hl : Small zs) (hn : Hid (A = none → c = 0)) (pr : Hid (PReads w B ps)) (pl : (ps.length : Int) ≤ 2097152) (q0 : 0 ≤ v) (q1 : v ≤ 255) :
    Calls Try.prog 9 #[.agg #[.int .i64 x0, .int .i64 y0, .int .i64 x1, .int .i64 y1, .int .i64 s, .slice A zs.length c, .slice B ps.length k], .int .i64 x, .int .i64 y, .int .u8 v] w fun e w' => e = .returned (.bool true) ∧ Below w.heap.size w w' := by
  by_cases hF : Fits x0 y0 x1 y1 s 1 zs.length
  · by_cases hI : Insd x0 y0 x1 y1 x y
    · exact set_in x0 y0 x1 y1 s A c zs B k ps x y v w hr hl hn pr pl hF hI
    · exact set_out x0 y0 x1 y1 s A c zs B k ps x y v w hr hl hn pr pl hF hI
  · exact set_unfit x0 y0 x1 y1 s A c zs B k ps x y v w hr hl hn pr pl hF

end Go.Proofs.Ytkhgobeeaiagfaa
