/- Reading a number of two bytes: Number, the method Gray16At, impl.Gray16At; the walk of the law FnGray16At. -/
import Derived.Test.YtmhmahdojcajpaaWOffset
import Derived.Test.YtmhmahdojcajpaaMem
import Derived.BigRegion
namespace Go.Proofs.Ytmhmahdojcajpaa
open Go.RowKit
set_option linter.unusedVariables false

theorem or_byte (z0 z1 : Int) (h0 : 0 ≤ z0) (h1 : z0 ≤ 255) (h2 : 0 ≤ z1) (h3 : z1 ≤ 255) : bits .or .u16 (z0 * 256) z1 = z0 * 256 + z1 := by
  rw [u16_or _ _ (by omega) (by omega) (by omega) (by omega)]
  obtain ⟨a, rfl⟩ := Int.eq_ofNat_of_zero_le h0
  obtain ⟨b, rfl⟩ := Int.eq_ofNat_of_zero_le h2
  have e : (((a : Int) * 256).toNat ||| (b : Int).toNat) = a * 256 + b := by
    have e1 : ((a : Int) * 256).toNat = a <<< 8 := by rw [Nat.shiftLeft_eq]; omega
    rw [e1, Int.toNat_natCast, ← Nat.shiftLeft_add_eq_or_of_lt (by omega : b < 2 ^ 8), Nat.shiftLeft_eq]
  rw [e]
  omega

/-- The number that two bytes say. -/
def numAt (zs : List Int) (k : Nat) : Int := zs.getD k 0 * 256 + zs.getD (k + 1) 0
theorem numAt_in {zs : List Int} (hy : Bytes zs) (k : Nat) : 0 ≤ numAt zs k ∧ numAt zs k ≤ 65535 := by
  have := hy.get k
  have := hy.get (k + 1)
  unfold numAt
  omega

theorem number_cells (b o n c k : Nat) (z0 z1 : Int) (w : World) (hk : (k : Int) + 1 < n) (hn : (n : Int) ≤ 140737488351232) (c0 : w.cell? ⟨b, o + k, none⟩ = some (.int .u8 z0)) (c1 : w.cell? ⟨b, o + (k + 1), none⟩ = some (.int .u8 z1))
    (h0 : 0 ≤ z0) (h1 : z0 ≤ 255) (h2 : 0 ≤ z1) (h3 : z1 ≤ 255) :
    Calls Try.prog 25 #[.slice (some ⟨b, o, none⟩) n c, .int .i64 k] w fun e w' => e = .returned (.int .u16 (z0 * 256 + z1)) ∧ Below w.heap.size w w' := by
  have HO := Lib.hid (or_byte z0 z1 h0 h1 h2 h3)
  have i0 : (0 : Int) ≤ (k : Int) := by omega
  have i1 : (k : Int) < (n : Int) := by omega
  have i2 : (0 : Int) ≤ (k : Int) + 1 := by omega
  have i4 : ((k : Int) + 1).toNat = k + 1 := by omega
  have i3 : IntKind.i64.wrap ((k : Int) + 1) = (k : Int) + 1 := IntWalk.i64_in _ (by omega)
  go_enter Try.func25, Try.ntmps25
  go_wp2
  go_quiet (fail)
  go_wp2
  go_ret
  exact ⟨by simp [HO.out], below_drewN (Below.refl _ _) _⟩
theorem number_any (b o c k : Nat) (zs : List Int) (w : World) (hr : Reads w (some ⟨b, o, none⟩) zs) (hy : Bytes zs) (hl : Small zs) (hk : k + 1 < zs.length) :
    Calls Try.prog 25 #[.slice (some ⟨b, o, none⟩) zs.length c, .int .i64 k] w fun e w' => e = .returned (.int .u16 (numAt zs k)) ∧ Below w.heap.size w w' :=
  number_cells b o zs.length c k _ _ w (by omega) (by unfold Small at hl; omega) (hr.cell (by omega)) (hr.cell hk) (hy.get k).1 (hy.get k).2 (hy.get (k + 1)).1 (hy.get (k + 1)).2

theorem at_cells (g b o c k : Nat) (zs : List Int) (s x0 y0 x1 y1 x y z0 z1 : Int) (w : World) (hg : w.heap[g]? = some (.cells #[.slice (some ⟨b, o, none⟩) zs.length c, .int .i64 s, .int .i64 x0, .int .i64 y0, .int .i64 x1, .int .i64 y1] 99 (0, 0)))
    (hI : Hid (Insd x0 y0 x1 y1 x y)) (HK : Hid ((y - y0) * s + (x - x0) * 2 = k)) (b1 : -4398046511104 ≤ y - y0) (b2 : y - y0 ≤ 4398046511104) (b3 : -4398046511104 ≤ x - x0) (b4 : x - x0 ≤ 4398046511104)
    (p1 : -2305843009213693952 ≤ (y - y0) * s) (p2 : (y - y0) * s ≤ 2305843009213693952)
    (hk : (k : Int) + 1 < zs.length) (hn : (zs.length : Int) ≤ 140737488351232) (c0 : w.cell? ⟨b, o + k, none⟩ = some (.int .u8 z0)) (c1 : w.cell? ⟨b, o + (k + 1), none⟩ = some (.int .u8 z1))
    (h0 : 0 ≤ z0) (h1 : z0 ≤ 255) (h2 : 0 ≤ z1) (h3 : z1 ≤ 255) :
    Calls Try.prog 48 #[.pointer (some ⟨g, 0, none⟩), .int .i64 x, .int .i64 y] w fun e w' => e = .returned (.agg #[.int .u16 (z0 * 256 + z1)]) ∧ Below w.heap.size w w' := by
  have HO := Lib.hid (or_byte z0 z1 h0 h1 h2 h3)
  have HG := Lib.hid hg
  have g0 := cell_of_row w g 0 _ _ _ hg
  have g1 := cell_of_row w g 1 _ _ _ hg
  have g2 := cell_of_row w g 2 _ _ _ hg
  have g3 := cell_of_row w g 3 _ _ _ hg
  have g4 := cell_of_row w g 4 _ _ _ hg
  have g5 := cell_of_row w g 5 _ _ _ hg
  simp at g0 g1 g2 g3 g4 g5
  have hgl : g < w.heap.size := block_lt_of_cell g0
  clear hg
  go_enter Try.func48, Try.ntmps48
  go_wp2_with fail
  refine (in_any x0 y0 x1 y1 x y true (by simp [hI.out]) _).mono ?_
  rintro e w1 ⟨rfl, hb1⟩
  have hB1 : Below w.heap.size w w1 := ((Below.refl _ _).alloc (Nat.le_refl _) _).trans (hb1.mono (by simp))
  have hz1 : w.heap.size < w1.heap.size := by have := hb1.size; simp at this; omega
  have r0 : w1.cell? ⟨w.heap.size, 0, none⟩ = some (.int .u16 0) := ((bcell hb1).1 _ 0 (by simp)).trans (by simp)
  have r1 : w1.frozen? ⟨w.heap.size, 0, none⟩ = false := ((bcell hb1).2 _ 0 (by simp)).trans (by simp)
  replace c0 := cell_kept c0 hB1
  replace c1 := cell_kept c1 hB1
  replace g0 := cell_kept g0 hB1
  have HG1 := Lib.hid (heap_kept HG.out hB1)
  clear hb1 g1 g2 g3 g4 g5 HG
  go_wp2_with fail
  refine (pixOffset_any g _ c zs s x0 y0 x1 y1 x y _ HG1.out b1 b2 b3 b4 p1 p2).mono ?_
  rintro e w2 ⟨rfl, m, rfl⟩
  rw [HK.out]
  clear b1 b2 b3 b4 p1 p2 HK HG1 hI
  have i0 : (0 : Int) ≤ (k : Int) := by omega
  have i1 : (k : Int) < (zs.length : Int) := by omega
  have i2 : (0 : Int) ≤ (k : Int) + 1 := by omega
  have i4 : ((k : Int) + 1).toNat = k + 1 := by omega
  have i3 : IntKind.i64.wrap ((k : Int) + 1) = (k : Int) + 1 := IntWalk.i64_in _ (by omega)
  go_wp2
  go_region
  go_wp2
  exact bodyPost_ret (v := .agg #[.int .u16 (z0 * 256 + z1)]) (by simp [results, Try.results48, go_sem, r0, HO.out]) rfl ⟨rfl, (below_drewN hB1 _).setCell (Nat.le_refl _) _⟩

theorem at_out (g : Nat) (A : Option Addr) (c : Nat) (zs : List Int) (s x0 y0 x1 y1 x y : Int) (w : World) (hg : w.heap[g]? = some (.cells #[.slice A zs.length c, .int .i64 s, .int .i64 x0, .int .i64 y0, .int .i64 x1, .int .i64 y1] 99 (0, 0))) (hI : Hid (¬ Insd x0 y0 x1 y1 x y)) :
    Calls Try.prog 48 #[.pointer (some ⟨g, 0, none⟩), .int .i64 x, .int .i64 y] w fun e w' => e = .returned (.agg #[.int .u16 0]) ∧ Below w.heap.size w w' := by
  have HG := Lib.hid hg
  have g0 := cell_of_row w g 0 _ _ _ hg
  have g1 := cell_of_row w g 1 _ _ _ hg
  have g2 := cell_of_row w g 2 _ _ _ hg
  have g3 := cell_of_row w g 3 _ _ _ hg
  have g4 := cell_of_row w g 4 _ _ _ hg
  have g5 := cell_of_row w g 5 _ _ _ hg
  simp at g0 g1 g2 g3 g4 g5
  have hgl : g < w.heap.size := block_lt_of_cell g0
  clear hg
  go_enter Try.func48, Try.ntmps48
  go_wp2_with fail
  refine (in_any x0 y0 x1 y1 x y false (by simp [hI.out]) _).mono ?_
  rintro e w1 ⟨rfl, hb1⟩
  have hB1 : Below w.heap.size w w1 := ((Below.refl _ _).alloc (Nat.le_refl _) _).trans (hb1.mono (by simp))
  have r0 : w1.cell? ⟨w.heap.size, 0, none⟩ = some (.int .u16 0) := ((bcell hb1).1 _ 0 (by simp)).trans (by simp)
  have r1 : w1.frozen? ⟨w.heap.size, 0, none⟩ = false := ((bcell hb1).2 _ 0 (by simp)).trans (by simp)
  clear hb1 g0 g1 g2 g3 g4 g5 HG
  go_wp2
  exact bodyPost_ret (v := .agg #[.int .u16 0]) (by simp [results, Try.results48, go_sem, r0]) rfl ⟨rfl, hB1.setCell (Nat.le_refl _) _⟩

/-- impl.Gray16At at a pixel of the image. -/
theorem implAt_in (x0 y0 x1 y1 s x y : Int) (A : Option Addr) (c k : Nat) (zs : List Int) (w : World) (hr : Hid (Reads w A zs)) (hy : Hid (Bytes zs)) (hl : Small zs) (hn : Hid (A = none → c = 0))
    (hI : Hid (Insd x0 y0 x1 y1 x y)) (HK : Hid ((y - y0) * s + (x - x0) * 2 = k)) (b1 : -4398046511104 ≤ y - y0) (b2 : y - y0 ≤ 4398046511104) (b3 : -4398046511104 ≤ x - x0) (b4 : x - x0 ≤ 4398046511104)
    (p1 : -2305843009213693952 ≤ (y - y0) * s) (p2 : (y - y0) * s ≤ 2305843009213693952) (hk : Hid (k + 1 < zs.length)) :
    Calls Try.prog 24 #[.agg #[.int .i64 x0, .int .i64 y0, .int .i64 x1, .int .i64 y1, .int .i64 s, .slice A zs.length c], .int .i64 x, .int .i64 y] w fun e w' => e = .returned (.int .u16 (numAt zs k)) ∧ Below w.heap.size w w' := by
  go_enter Try.func24, Try.ntmps24
  go_wp2_with fail
  refine (to_any x0 y0 x1 y1 s A c zs _ (hr.out.below ((Below.refl _ _).alloc (Nat.le_refl _) _)) hl hn.out).mono ?_
  rintro e w1 ⟨g, A', c', rfl, hgb, hg, hown, hb1⟩
  have hB1 : Below w.heap.size w w1 := ((Below.refl _ _).alloc (Nat.le_refl _) _).trans (hb1.mono (by simp))
  have HR := Lib.hid (Reads.of_own hown)
  obtain ⟨b, o, rfl⟩ := HR.out.addr (by have := hk.out; omega)
  have HG := Lib.hid hg
  clear hg hown hb1
  have hkk := hk.out
  have C0 := Lib.hid (HR.out.cell (j := k) (by omega))
  have C1 := Lib.hid (HR.out.cell (j := k + 1) hkk)
  have Y0 := Lib.hid (hy.out.get k)
  have Y1 := Lib.hid (hy.out.get (k + 1))
  have hkn : (k : Int) + 1 < zs.length := by omega
  have hln : (zs.length : Int) ≤ 140737488351232 := by unfold Small at hl; omega
  clear hkk
  go_wp2_with fail
  refine (at_cells g b o c' k zs s x0 y0 x1 y1 x y _ _ _ HG.out hI HK b1 b2 b3 b4 p1 p2 hkn hln C0.out C1.out Y0.out.1 Y0.out.2 Y1.out.1 Y1.out.2).mono ?_
  rintro e w2 ⟨rfl, hb2⟩
  have hB2 : Below w.heap.size w w2 := hB1.trans (hb2.mono hB1.size)
  have hz2 := hB2.size
  clear hb2
  go_wp2
  go_ret
  exact ⟨by simp [numAt], hB2.alloc hz2 _⟩

theorem implAt_out (x0 y0 x1 y1 s x y : Int) (A : Option Addr) (c : Nat) (zs : List Int) (w : World) (hr : Hid (Reads w A zs)) (hl : Small zs) (hn : Hid (A = none → c = 0))
    (hI : Hid (¬ Insd x0 y0 x1 y1 x y)) :
    Calls Try.prog 24 #[.agg #[.int .i64 x0, .int .i64 y0, .int .i64 x1, .int .i64 y1, .int .i64 s, .slice A zs.length c], .int .i64 x, .int .i64 y] w fun e w' => e = .returned (.int .u16 0) ∧ Below w.heap.size w w' := by
  go_enter Try.func24, Try.ntmps24
  go_wp2_with fail
  refine (to_any x0 y0 x1 y1 s A c zs _ (hr.out.below ((Below.refl _ _).alloc (Nat.le_refl _) _)) hl hn.out).mono ?_
  rintro e w1 ⟨g, A', c', rfl, hgb, hg, hown, hb1⟩
  have hB1 : Below w.heap.size w w1 := ((Below.refl _ _).alloc (Nat.le_refl _) _).trans (hb1.mono (by simp))
  have HG := Lib.hid hg
  clear hg hown hb1
  go_wp2_with fail
  refine (at_out g A' c' zs s x0 y0 x1 y1 x y _ HG.out hI).mono ?_
  rintro e w2 ⟨rfl, hb2⟩
  have hB2 : Below w.heap.size w w2 := hB1.trans (hb2.mono hB1.size)
  have hz2 := hB2.size
  clear hb2
  go_wp2
  go_ret
  exact ⟨by simp, hB2.alloc hz2 _⟩


theorem lawAt_unfit (x0 y0 x1 y1 s x y : Int) (A : Option Addr) (c : Nat) (zs : List Int) (w : World) (hr : Hid (Reads w A zs)) (hy : Hid (Bytes zs)) (hl : Small zs) (hn : Hid (A = none → c = 0)) (hF : Hid (¬ Fits x0 y0 x1 y1 s 2 zs.length)) :
    Calls Try.prog 6 #[.agg #[.int .i64 x0, .int .i64 y0, .int .i64 x1, .int .i64 y1, .int .i64 s, .slice A zs.length c], .int .i64 x, .int .i64 y] w fun e w' => e = .returned (.bool true) ∧ Below w.heap.size w w' := by
  go_enter Try.func6, Try.ntmps6
  go_wp2_with fail
  refine (fitsK_any x0 y0 x1 y1 s A c zs false (by simp [hF.out]) _).mono ?_
  rintro e w1 ⟨rfl, hb1⟩
  obtain ⟨hz1, hB1, c10, c11, c12, c13, c14, c15⟩ := keep6 hb1 (start6 w _ _ _ _ _ _ _ )
  clear hb1
  go_wp2
  go_ret
  exact ⟨by simp, hB1⟩

theorem lawAt_out (x0 y0 x1 y1 s x y : Int) (A : Option Addr) (c : Nat) (zs : List Int) (w : World) (hr : Hid (Reads w A zs)) (hy : Hid (Bytes zs)) (hl : Small zs) (hn : Hid (A = none → c = 0)) (hF : Hid (Fits x0 y0 x1 y1 s 2 zs.length)) (hI : Hid (¬ Insd x0 y0 x1 y1 x y)) :
    Calls Try.prog 6 #[.agg #[.int .i64 x0, .int .i64 y0, .int .i64 x1, .int .i64 y1, .int .i64 s, .slice A zs.length c], .int .i64 x, .int .i64 y] w fun e w' => e = .returned (.bool true) ∧ Below w.heap.size w w' := by
  go_enter Try.func6, Try.ntmps6
  go_wp2_with fail
  refine (fitsK_any x0 y0 x1 y1 s A c zs true (by simp [hF.out]) _).mono ?_
  rintro e w1 ⟨rfl, hb1⟩
  obtain ⟨hz1, hB1, c10, c11, c12, c13, c14, c15⟩ := keep6 hb1 (start6 w _ _ _ _ _ _ _ )
  clear hb1
  go_wp2_with fail
  refine (inside_any x0 y0 x1 y1 x y false (by simp [hI.out]) _).mono ?_
  rintro e w2 ⟨rfl, hb2⟩
  obtain ⟨hz2, hB2, c20, c21, c22, c23, c24, c25⟩ := keep6 hb2 ⟨hz1, hB1, c10, c11, c12, c13, c14, c15⟩
  clear hb2 hz1 hB1 c10 c11 c12 c13 c14 c15
  go_wp2
  go_ret
  exact ⟨by simp, hB2⟩

theorem lawAt_in (x0 y0 x1 y1 s x y : Int) (A : Option Addr) (c : Nat) (zs : List Int) (w : World) (hr : Hid (Reads w A zs)) (hy : Hid (Bytes zs)) (hl : Small zs) (hn : Hid (A = none → c = 0)) (hF : Hid (Fits x0 y0 x1 y1 s 2 zs.length)) (hI : Hid (Insd x0 y0 x1 y1 x y)) :
    Calls Try.prog 6 #[.agg #[.int .i64 x0, .int .i64 y0, .int .i64 x1, .int .i64 y1, .int .i64 s, .slice A zs.length c], .int .i64 x, .int .i64 y] w fun e w' => e = .returned (.bool true) ∧ Below w.heap.size w w' := by
  obtain ⟨b1, b2, b3, b4⟩ : -4398046511104 ≤ y - y0 ∧ y - y0 ≤ 4398046511104 ∧ -4398046511104 ≤ x - x0 ∧ x - x0 ≤ 4398046511104 := near_point hF.out hI.out
  obtain ⟨p1, p2⟩ : -2305843009213693952 ≤ (y - y0) * s ∧ (y - y0) * s ≤ 2305843009213693952 := (by have := hF.out.prods hI.out; omega)
  obtain ⟨k, hK, hk⟩ := hF.out.place (z := 2) rfl hI.out
  have HK := Lib.hid hK
  have Hk : Hid (k + 1 < zs.length) := by unfold Hid; omega
  clear hK hk
  obtain ⟨b, o, rfl⟩ := hr.out.addr (by have := Hk.out; omega)
  go_enter Try.func6, Try.ntmps6
  go_wp2_with fail
  refine (fitsK_any x0 y0 x1 y1 s _ c zs true (by simp [hF.out]) _).mono ?_
  rintro e w1 ⟨rfl, hb1⟩
  obtain ⟨hz1, hB1, c10, c11, c12, c13, c14, c15⟩ := keep6 hb1 (start6 w _ _ _ _ _ _ _ )
  clear hb1
  go_wp2_with fail
  refine (inside_any x0 y0 x1 y1 x y true (by simp [hI.out]) _).mono ?_
  rintro e w2 ⟨rfl, hb2⟩
  obtain ⟨hz2, hB2, c20, c21, c22, c23, c24, c25⟩ := keep6 hb2 ⟨hz1, hB1, c10, c11, c12, c13, c14, c15⟩
  clear hb2 hz1 hB1 c10 c11 c12 c13 c14 c15
  go_wp2
  go_region_held3 (fun w' => w.heap.size < w'.heap.size ∧ Below w.heap.size w w' ∧ w'.cell? ⟨w.heap.size, 0, none⟩ = some (.int .i64 x0) ∧ w'.cell? ⟨w.heap.size, 1, none⟩ = some (.int .i64 y0) ∧ w'.cell? ⟨w.heap.size, 2, none⟩ = some (.int .i64 x1) ∧ w'.cell? ⟨w.heap.size, 3, none⟩ = some (.int .i64 y1) ∧ w'.cell? ⟨w.heap.size, 4, none⟩ = some (.int .i64 s) ∧ w'.cell? ⟨w.heap.size, 5, none⟩ = some ((.slice (some ⟨b, o, none⟩) zs.length c)))
    (first | exact ⟨hz2, hB2.drew, c20, c21, c22, c23, c24, c25⟩ | exact keep6 (by assumption) (by assumption))
    (first | (go_at_call 24; refine (implAt_in x0 y0 x1 y1 s x y _ c k zs _ ?_ hy hl hn hI HK b1 b2 b3 b4 p1 p2 Hk).mono ?_; exact hr.out.below (heldB (by assumption)); rintro e w7 ⟨rfl, hb7⟩) | (go_at_call 19; refine (atK_any x0 y0 x1 y1 s x y _ c zs _ b1 b2 b3 b4 p1 p2).mono ?_; rintro e w8 ⟨rfl, hb8⟩; rw [HK.out]) | (go_at_call 25; refine (number_any b o c k zs _ ?_ hy.out hl Hk.out).mono ?_; exact hr.out.below (heldB (by assumption)); rintro e w9 ⟨rfl, hb9⟩))
  rename_i hS
  go_wp2
  go_ret
  exact ⟨by simp, hS.2.1⟩

theorem walk_at (x0 y0 x1 y1 s x y : Int) (A : Option Addr) (c : Nat) (zs : List Int) (w : World) (hr : Hid (Reads w A zs)) (hy : Hid (Bytes zs)) (hl : Small zs) (hn : Hid (A = none → c = 0)) :
    Calls Try.prog 6 #[.agg #[.int .i64 x0, .int .i64 y0, .int .i64 x1, .int .i64 y1, .int .i64 s, .slice A zs.length c], .int .i64 x, .int .i64 y] w fun e w' => e = .returned (.bool true) ∧ Below w.heap.size w w' := by
  by_cases hF : Fits x0 y0 x1 y1 s 2 zs.length
  · by_cases hI : Insd x0 y0 x1 y1 x y
    · exact lawAt_in x0 y0 x1 y1 s x y A c zs w hr hy hl hn hF hI
    · exact lawAt_out x0 y0 x1 y1 s x y A c zs w hr hy hl hn hF hI
  · exact lawAt_unfit x0 y0 x1 y1 s x y A c zs w hr hy hl hn hF

end Go.Proofs.Ytmhmahdojcajpaa
