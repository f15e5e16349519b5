/- Reading numbers of two bytes: Number, wideAt, the method NRGBA64At, impl.NRGBA64At; the walk of the law FnNRGBA64At. -/
import Derived.Test.YthpgfmgjfadjhaaWOffset
import Derived.Test.YthpgfmgjfadjhaaMem
import Derived.BigRegion
import Derived.Deep.RegionHeld3
namespace Go.Proofs.Ythpgfmgjfadjhaa
open Go.RowKit
set_option linter.unusedVariables false
set_option linter.unusedSimpArgs false

theorem or_byte (z0 z1 : Int) (h0 : 0 ≤ z0) (h1 : z0 ≤ 255) (h2 : 0 ≤ z1) (h3 : z1 ≤ 255) : bits .or .u16 (z0 * 256) z1 = z0 * 256 + z1 := by
  rw [u16_or _ _ (by omega) (by omega) (by omega) (by omega)]
  obtain ⟨a, rfl⟩ := Int.eq_ofNat_of_zero_le h0
  obtain ⟨b, rfl⟩ := Int.eq_ofNat_of_zero_le h2
  have e : (((a : Int) * 256).toNat ||| (b : Int).toNat) = a * 256 + b := by
    have e1 : ((a : Int) * 256).toNat = a <<< 8 := by rw [Nat.shiftLeft_eq]; omega
    rw [e1, Int.toNat_natCast, ← Nat.shiftLeft_add_eq_or_of_lt (by omega : b < 2 ^ 8), Nat.shiftLeft_eq]
  rw [e]
  omega

/-- The number that two bytes say. -/
def numAt (zs : List Int) (k : Nat) : Int := zs.getD k 0 * 256 + zs.getD (k + 1) 0
theorem numAt_in {zs : List Int} (hy : Bytes zs) (k : Nat) : 0 ≤ numAt zs k ∧ numAt zs k ≤ 65535 := by
  have := hy.get k
  have := hy.get (k + 1)
  unfold numAt
  omega

theorem number_cells (b o n c k : Nat) (z0 z1 : Int) (w : World) (hk : (k : Int) + 1 < n) (hn : (n : Int) ≤ 140737488351232) (c0 : w.cell? ⟨b, o + k, none⟩ = some (.int .u8 z0)) (c1 : w.cell? ⟨b, o + (k + 1), none⟩ = some (.int .u8 z1))
    (h0 : 0 ≤ z0) (h1 : z0 ≤ 255) (h2 : 0 ≤ z1) (h3 : z1 ≤ 255) :
    Calls Try.prog 48 #[.slice (some ⟨b, o, none⟩) n c, .int .i64 k] w fun e w' => e = .returned (.int .u16 (z0 * 256 + z1)) ∧ Below w.heap.size w w' := by
  have HO := Lib.hid (or_byte z0 z1 h0 h1 h2 h3)
  have i0 : (0 : Int) ≤ (k : Int) := by omega
  have i1 : (k : Int) < (n : Int) := by omega
  have i2 : (0 : Int) ≤ (k : Int) + 1 := by omega
  have i4 : ((k : Int) + 1).toNat = k + 1 := by omega
  have i3 : IntKind.i64.wrap ((k : Int) + 1) = (k : Int) + 1 := IntWalk.i64_in _ (by omega)
  go_enter Try.func48, Try.ntmps48
  go_wp2
  go_quiet (fail)
  go_wp2
  go_ret
  exact ⟨by simp [HO.out], below_drewN (Below.refl _ _) _⟩
theorem number_any (b o c k : Nat) (zs : List Int) (w : World) (hr : Reads w (some ⟨b, o, none⟩) zs) (hy : Bytes zs) (hl : Small zs) (hk : k + 1 < zs.length) :
    Calls Try.prog 48 #[.slice (some ⟨b, o, none⟩) zs.length c, .int .i64 k] w fun e w' => e = .returned (.int .u16 (numAt zs k)) ∧ Below w.heap.size w w' :=
  number_cells b o zs.length c k _ _ w (by omega) (by unfold Small at hl; omega) (hr.cell (by omega)) (hr.cell hk) (hy.get k).1 (hy.get k).2 (hy.get (k + 1)).1 (hy.get (k + 1)).2


theorem or_wrap (z0 z1 : Int) (h0 : 0 ≤ z0 ∧ z0 ≤ 255) (h1 : 0 ≤ z1 ∧ z1 ≤ 255) : bits .or .u16 (IntKind.u16.wrap (IntKind.u16.wrap z0 * 256)) (IntKind.u16.wrap z1) = z0 * 256 + z1 := by
  rw [IntWalk.u16_in z0 (by omega), IntWalk.u16_in z1 (by omega), IntWalk.u16_in (z0 * 256) (by omega)]
  exact or_byte z0 z1 h0.1 h0.2 h1.1 h1.2
set_option maxRecDepth 100000 in
set_option maxHeartbeats 2000000 in
theorem at_cells (g b o c k : Nat) (zs : List Int) (s x0 y0 x1 y1 x y z0 z1 z2 z3 z4 z5 z6 z7 : Int) (w : World) (hg : w.heap[g]? = some (.cells #[.slice (some ⟨b, o, none⟩) zs.length c, .int .i64 s, .int .i64 x0, .int .i64 y0, .int .i64 x1, .int .i64 y1] 100 (0, 0)))
    (hI : Hid (Insd x0 y0 x1 y1 x y)) (HK : Hid ((y - y0) * s + (x - x0) * 8 = k)) (b1 : -4398046511104 ≤ y - y0) (b2 : y - y0 ≤ 4398046511104) (b3 : -4398046511104 ≤ x - x0) (b4 : x - x0 ≤ 4398046511104)
    (p1 : -2305843009213693952 ≤ (y - y0) * s) (p2 : (y - y0) * s ≤ 2305843009213693952)
    (hk : (k : Int) + 8 ≤ zs.length) (hn : (zs.length : Int) ≤ 140737488351232) (hc : (zs.length : Int) ≤ c) (c0 : w.cell? ⟨b, o + k, none⟩ = some (.int .u8 z0)) (c1 : w.cell? ⟨b, o + k + 1, none⟩ = some (.int .u8 z1)) (c2 : w.cell? ⟨b, o + k + 2, none⟩ = some (.int .u8 z2)) (c3 : w.cell? ⟨b, o + k + 3, none⟩ = some (.int .u8 z3)) (c4 : w.cell? ⟨b, o + k + 4, none⟩ = some (.int .u8 z4)) (c5 : w.cell? ⟨b, o + k + 5, none⟩ = some (.int .u8 z5)) (c6 : w.cell? ⟨b, o + k + 6, none⟩ = some (.int .u8 z6)) (c7 : w.cell? ⟨b, o + k + 7, none⟩ = some (.int .u8 z7))
    (h0 : 0 ≤ z0 ∧ z0 ≤ 255) (h1 : 0 ≤ z1 ∧ z1 ≤ 255) (h2 : 0 ≤ z2 ∧ z2 ≤ 255) (h3 : 0 ≤ z3 ∧ z3 ≤ 255) (h4 : 0 ≤ z4 ∧ z4 ≤ 255) (h5 : 0 ≤ z5 ∧ z5 ≤ 255) (h6 : 0 ≤ z6 ∧ z6 ≤ 255) (h7 : 0 ≤ z7 ∧ z7 ≤ 255) (n0 n1 n2 n3 : Int) (E0 : Hid (z0 * 256 + z1 = n0)) (E1 : Hid (z2 * 256 + z3 = n1)) (E2 : Hid (z4 * 256 + z5 = n2)) (E3 : Hid (z6 * 256 + z7 = n3)) :
    Calls Try.prog 47 #[.pointer (some ⟨g, 0, none⟩), .int .i64 x, .int .i64 y] w fun e w' => e = .returned (.agg #[.int .u16 n0, .int .u16 n1, .int .u16 n2, .int .u16 n3]) ∧ Below w.heap.size w w' := by
  have HO0 := Lib.hid ((or_wrap z0 z1 h0 h1).trans E0.out)
  have HO1 := Lib.hid ((or_wrap z2 z3 h2 h3).trans E1.out)
  have HO2 := Lib.hid ((or_wrap z4 z5 h4 h5).trans E2.out)
  have HO3 := Lib.hid ((or_wrap z6 z7 h6 h7).trans E3.out)
  have HG := Lib.hid hg
  have g0 := cell_of_row w g 0 _ _ _ hg
  have g1 := cell_of_row w g 1 _ _ _ hg
  have g2 := cell_of_row w g 2 _ _ _ hg
  have g3 := cell_of_row w g 3 _ _ _ hg
  have g4 := cell_of_row w g 4 _ _ _ hg
  have g5 := cell_of_row w g 5 _ _ _ hg
  simp at g0 g1 g2 g3 g4 g5
  have hgl : g < w.heap.size := block_lt_of_cell g0
  clear hg
  have hbl : b < w.heap.size := block_lt_of_cell c0
  have hne : ¬ b = w.heap.size := by omega
  have hne' : ¬ w.heap.size = b := by omega
  go_enter Try.func47, Try.ntmps47
  go_wp2_with fail
  refine (in_any x0 y0 x1 y1 x y true (by simp [hI.out]) _).mono ?_
  rintro e w1 ⟨rfl, hb1⟩
  have hB1 : Below w.heap.size w w1 := ((Below.refl _ _).alloc (Nat.le_refl _) _).trans (hb1.mono (by simp))
  have hz1 : w.heap.size < w1.heap.size := by have := hb1.size; simp at this; omega
  have r0 : w1.cell? ⟨w.heap.size, 0, none⟩ = some (.int .u16 0) := ((bcell hb1).1 _ 0 (by simp)).trans (by simp)
  have f0 : w1.frozen? ⟨w.heap.size, 0, none⟩ = false := ((bcell hb1).2 _ 0 (by simp)).trans (by simp)
  have r1 : w1.cell? ⟨w.heap.size, 1, none⟩ = some (.int .u16 0) := ((bcell hb1).1 _ 1 (by simp)).trans (by simp)
  have f1 : w1.frozen? ⟨w.heap.size, 1, none⟩ = false := ((bcell hb1).2 _ 1 (by simp)).trans (by simp)
  have r2 : w1.cell? ⟨w.heap.size, 2, none⟩ = some (.int .u16 0) := ((bcell hb1).1 _ 2 (by simp)).trans (by simp)
  have f2 : w1.frozen? ⟨w.heap.size, 2, none⟩ = false := ((bcell hb1).2 _ 2 (by simp)).trans (by simp)
  have r3 : w1.cell? ⟨w.heap.size, 3, none⟩ = some (.int .u16 0) := ((bcell hb1).1 _ 3 (by simp)).trans (by simp)
  have f3 : w1.frozen? ⟨w.heap.size, 3, none⟩ = false := ((bcell hb1).2 _ 3 (by simp)).trans (by simp)
  replace c0 := cell_kept c0 hB1
  replace c1 := cell_kept c1 hB1
  replace c2 := cell_kept c2 hB1
  replace c3 := cell_kept c3 hB1
  replace c4 := cell_kept c4 hB1
  replace c5 := cell_kept c5 hB1
  replace c6 := cell_kept c6 hB1
  replace c7 := cell_kept c7 hB1
  replace g0 := cell_kept g0 hB1
  have HG1 := Lib.hid (heap_kept HG.out hB1)
  clear hb1 g1 g2 g3 g4 g5 HG
  go_wp2_with fail
  refine (pixOffset_any g _ c zs s x0 y0 x1 y1 x y _ HG1.out b1 b2 b3 b4 p1 p2).mono ?_
  rintro e w2 ⟨rfl, m, rfl⟩
  rw [HK.out]
  clear b1 b2 b3 b4 p1 p2 HK HG1 hI
  have i0 : (0 : Int) ≤ (k : Int) := by omega
  have i1 : (k : Int) ≤ (k : Int) + 8 := by omega
  have i2 : (0 : Int) ≤ (k : Int) + 8 := by omega
  have i5 : (k : Int) + 8 ≤ (c : Int) := by omega
  have i4 : ((k : Int) + 8).toNat = k + 8 := by omega
  have i6 : ((k : Int) + 8 - (k : Int)).toNat = 8 := by omega
  have i7 : k + 8 - k = 8 := by omega
  have i3 : IntKind.i64.wrap ((k : Int) + 8) = (k : Int) + 8 := IntWalk.i64_in _ (by omega)
  go_wp2
  go_region_held3 (fun w' => w'.cell? ⟨b, o + k, none⟩ = some (.int .u8 z0) ∧ w'.cell? ⟨b, o + k + 1, none⟩ = some (.int .u8 z1) ∧ w'.cell? ⟨b, o + k + 2, none⟩ = some (.int .u8 z2) ∧ w'.cell? ⟨b, o + k + 3, none⟩ = some (.int .u8 z3) ∧ w'.cell? ⟨b, o + k + 4, none⟩ = some (.int .u8 z4) ∧ w'.cell? ⟨b, o + k + 5, none⟩ = some (.int .u8 z5) ∧ w'.cell? ⟨b, o + k + 6, none⟩ = some (.int .u8 z6) ∧ w'.cell? ⟨b, o + k + 7, none⟩ = some (.int .u8 z7))
    (go_keep)
    (fail)
  go_wp2
  exact bodyPost_ret (v := .agg #[.int .u16 n0, .int .u16 n1, .int .u16 n2, .int .u16 n3]) (by simp [results, Try.results47, go_sem, r0, r1, r2, r3, HO0.out, HO1.out, HO2.out, HO3.out]) rfl ⟨rfl, ((((below_drewN hB1 _).setCell (Nat.le_refl _) _).setCell (Nat.le_refl _) _).setCell (Nat.le_refl _) _).setCell (Nat.le_refl _) _⟩

theorem at_out (g : Nat) (A : Option Addr) (c : Nat) (zs : List Int) (s x0 y0 x1 y1 x y : Int) (w : World) (hg : w.heap[g]? = some (.cells #[.slice A zs.length c, .int .i64 s, .int .i64 x0, .int .i64 y0, .int .i64 x1, .int .i64 y1] 100 (0, 0))) (hI : Hid (¬ Insd x0 y0 x1 y1 x y)) :
    Calls Try.prog 47 #[.pointer (some ⟨g, 0, none⟩), .int .i64 x, .int .i64 y] w fun e w' => e = .returned (.agg #[.int .u16 0, .int .u16 0, .int .u16 0, .int .u16 0]) ∧ Below w.heap.size w w' := by
  have HG := Lib.hid hg
  have g0 := cell_of_row w g 0 _ _ _ hg
  have g1 := cell_of_row w g 1 _ _ _ hg
  have g2 := cell_of_row w g 2 _ _ _ hg
  have g3 := cell_of_row w g 3 _ _ _ hg
  have g4 := cell_of_row w g 4 _ _ _ hg
  have g5 := cell_of_row w g 5 _ _ _ hg
  simp at g0 g1 g2 g3 g4 g5
  have hgl : g < w.heap.size := block_lt_of_cell g0
  clear hg
  go_enter Try.func47, Try.ntmps47
  go_wp2_with fail
  refine (in_any x0 y0 x1 y1 x y false (by simp [hI.out]) _).mono ?_
  rintro e w1 ⟨rfl, hb1⟩
  have hB1 : Below w.heap.size w w1 := ((Below.refl _ _).alloc (Nat.le_refl _) _).trans (hb1.mono (by simp))
  have r0 : w1.cell? ⟨w.heap.size, 0, none⟩ = some (.int .u16 0) := ((bcell hb1).1 _ 0 (by simp)).trans (by simp)
  have f0 : w1.frozen? ⟨w.heap.size, 0, none⟩ = false := ((bcell hb1).2 _ 0 (by simp)).trans (by simp)
  have r1 : w1.cell? ⟨w.heap.size, 1, none⟩ = some (.int .u16 0) := ((bcell hb1).1 _ 1 (by simp)).trans (by simp)
  have f1 : w1.frozen? ⟨w.heap.size, 1, none⟩ = false := ((bcell hb1).2 _ 1 (by simp)).trans (by simp)
  have r2 : w1.cell? ⟨w.heap.size, 2, none⟩ = some (.int .u16 0) := ((bcell hb1).1 _ 2 (by simp)).trans (by simp)
  have f2 : w1.frozen? ⟨w.heap.size, 2, none⟩ = false := ((bcell hb1).2 _ 2 (by simp)).trans (by simp)
  have r3 : w1.cell? ⟨w.heap.size, 3, none⟩ = some (.int .u16 0) := ((bcell hb1).1 _ 3 (by simp)).trans (by simp)
  have f3 : w1.frozen? ⟨w.heap.size, 3, none⟩ = false := ((bcell hb1).2 _ 3 (by simp)).trans (by simp)
  clear hb1 g0 g1 g2 g3 g4 g5 HG
  go_wp2
  exact bodyPost_ret (v := .agg #[.int .u16 0, .int .u16 0, .int .u16 0, .int .u16 0]) (by simp [results, Try.results47, go_sem, r0, r1, r2, r3]) rfl ⟨rfl, (((hB1.setCell (Nat.le_refl _) _).setCell (Nat.le_refl _) _).setCell (Nat.le_refl _) _).setCell (Nat.le_refl _) _⟩


theorem ret_at {Q : Ending → World → Prop} (B : Nat) (v0 v1 v2 v3 : Value) (a : Act) (W : World) (ht : a.tmps[6]? = some (.pointer (some ⟨B, 0, none⟩))) (h0 : W.cell? ⟨B, 0, none⟩ = some v0) (h1 : W.cell? ⟨B, 1, none⟩ = some v1) (h2 : W.cell? ⟨B, 2, none⟩ = some v2) (h3 : W.cell? ⟨B, 3, none⟩ = some v3)
    (hd : a.defers = []) (hq : Q (.returned (.agg #[v0, v1, v2, v3])) W) : bodyPost Try.prog Try.f23 Q Exit.ret a W :=
  bodyPost_ret (v := .agg #[v0, v1, v2, v3]) (by simp [results, Try.results23, go_sem, ht, h0, h1, h2, h3]) hd hq

theorem ret_wide {Q : Ending → World → Prop} (B : Nat) (v0 v1 v2 v3 : Value) (a : Act) (W : World) (ht : a.tmps[4]? = some (.pointer (some ⟨B, 0, none⟩))) (h0 : W.cell? ⟨B, 0, none⟩ = some v0) (h1 : W.cell? ⟨B, 1, none⟩ = some v1) (h2 : W.cell? ⟨B, 2, none⟩ = some v2) (h3 : W.cell? ⟨B, 3, none⟩ = some v3)
    (hd : a.defers = []) (hq : Q (.returned (.agg #[v0, v1, v2, v3])) W) : bodyPost Try.prog Try.f24 Q Exit.ret a W :=
  bodyPost_ret (v := .agg #[v0, v1, v2, v3]) (by simp [results, Try.results24, go_sem, ht, h0, h1, h2, h3]) hd hq

theorem frozen_still {w w' : World} {a : Addr} {v : Value} (hc : w.cell? a = some v) (hf : w.frozen? a = false) (hb : Below w.heap.size w w') : w'.frozen? a = false :=
  (hb.frozen (World.block_lt_of_cell? w _ hc)).trans hf
theorem own_len {w : World} {base n c : Nat} {A : Option Addr} {xs : List Value} (h : w.ownsRow base 5 1 (.slice A n c) n xs) : n ≤ c := by
  rcases h.2 with ⟨hv, _⟩ | ⟨g, cap, cur, hv, _, _, hnc, hcm, _⟩
  · injection hv; omega
  · injection hv with _ _ e; subst e; omega

set_option maxRecDepth 100000 in
set_option maxHeartbeats 1000000 in
/-- impl.NRGBA64At at a pixel of the image. -/
theorem implAt_in (x0 y0 x1 y1 s x y : Int) (A : Option Addr) (c k : Nat) (zs : List Int) (w : World) (hr : Hid (Reads w A zs)) (hy : Hid (Bytes zs)) (hl : Small zs) (hn : Hid (A = none → c = 0))
    (hI : Hid (Insd x0 y0 x1 y1 x y)) (HK : Hid ((y - y0) * s + (x - x0) * 8 = k)) (b1 : -4398046511104 ≤ y - y0) (b2 : y - y0 ≤ 4398046511104) (b3 : -4398046511104 ≤ x - x0) (b4 : x - x0 ≤ 4398046511104)
    (p1 : -2305843009213693952 ≤ (y - y0) * s) (p2 : (y - y0) * s ≤ 2305843009213693952) (hk : Hid (k + 8 ≤ zs.length)) :
    Calls Try.prog 23 #[.agg #[.int .i64 x0, .int .i64 y0, .int .i64 x1, .int .i64 y1, .int .i64 s, .slice A zs.length c], .int .i64 x, .int .i64 y] w fun e w' => e = .returned (.agg #[.int .u16 (numAt zs k), .int .u16 (numAt zs (k + 2)), .int .u16 (numAt zs (k + 4)), .int .u16 (numAt zs (k + 6))]) ∧ Below w.heap.size w w' := by
  go_enter Try.func23, Try.ntmps23
  go_wp2_with fail
  refine (to_any x0 y0 x1 y1 s A c zs _ (hr.out.below (((Below.refl _ _).alloc (Nat.le_refl _) _).alloc (by simp) _)) hl hn.out).mono ?_
  rintro e w1 ⟨g, A', c', rfl, hgb, hg, hown, hb1⟩
  have hB1 : Below w.heap.size w w1 := (((Below.refl _ _).alloc (Nat.le_refl _) _).alloc (by simp) _).trans (hb1.mono (by simp; omega))
  have r0 : w1.cell? ⟨w.heap.size + 1, 0, none⟩ = some (.int .u16 0) := ((bcell hb1).1 _ 0 (by simp)).trans (by simp)
  have f0 : w1.frozen? ⟨w.heap.size + 1, 0, none⟩ = false := ((bcell hb1).2 _ 0 (by simp)).trans (by simp)
  have r1 : w1.cell? ⟨w.heap.size + 1, 1, none⟩ = some (.int .u16 0) := ((bcell hb1).1 _ 1 (by simp)).trans (by simp)
  have f1 : w1.frozen? ⟨w.heap.size + 1, 1, none⟩ = false := ((bcell hb1).2 _ 1 (by simp)).trans (by simp)
  have r2 : w1.cell? ⟨w.heap.size + 1, 2, none⟩ = some (.int .u16 0) := ((bcell hb1).1 _ 2 (by simp)).trans (by simp)
  have f2 : w1.frozen? ⟨w.heap.size + 1, 2, none⟩ = false := ((bcell hb1).2 _ 2 (by simp)).trans (by simp)
  have r3 : w1.cell? ⟨w.heap.size + 1, 3, none⟩ = some (.int .u16 0) := ((bcell hb1).1 _ 3 (by simp)).trans (by simp)
  have f3 : w1.frozen? ⟨w.heap.size + 1, 3, none⟩ = false := ((bcell hb1).2 _ 3 (by simp)).trans (by simp)
  have HR := Lib.hid (Reads.of_own hown)
  have HL := Lib.hid (own_len hown)
  obtain ⟨b, o, rfl⟩ := HR.out.addr (by have := hk.out; omega)
  have HG := Lib.hid hg
  clear hg hown hb1
  have hkk := hk.out
  have C0 := Lib.hid (HR.out.cell (j := k) (by omega))
  have Y0 := Lib.hid (hy.out.get (k))
  have C1 := Lib.hid (HR.out.cell (j := k + 1) (by omega))
  have Y1 := Lib.hid (hy.out.get (k + 1))
  have C2 := Lib.hid (HR.out.cell (j := k + 2) (by omega))
  have Y2 := Lib.hid (hy.out.get (k + 2))
  have C3 := Lib.hid (HR.out.cell (j := k + 3) (by omega))
  have Y3 := Lib.hid (hy.out.get (k + 3))
  have C4 := Lib.hid (HR.out.cell (j := k + 4) (by omega))
  have Y4 := Lib.hid (hy.out.get (k + 4))
  have C5 := Lib.hid (HR.out.cell (j := k + 5) (by omega))
  have Y5 := Lib.hid (hy.out.get (k + 5))
  have C6 := Lib.hid (HR.out.cell (j := k + 6) (by omega))
  have Y6 := Lib.hid (hy.out.get (k + 6))
  have C7 := Lib.hid (HR.out.cell (j := k + 7) (by omega))
  have Y7 := Lib.hid (hy.out.get (k + 7))
  have hkn : (k : Int) + 8 ≤ zs.length := by omega
  have hln : (zs.length : Int) ≤ 140737488351232 := by unfold Small at hl; omega
  have hcl : (zs.length : Int) ≤ c' := by have := HL.out; omega
  clear hkk
  go_wp2_with fail
  refine (at_cells g b o c' k zs s x0 y0 x1 y1 x y _ _ _ _ _ _ _ _ _ HG.out hI HK b1 b2 b3 b4 p1 p2 hkn hln hcl C0.out C1.out C2.out C3.out C4.out C5.out C6.out C7.out Y0.out Y1.out Y2.out Y3.out Y4.out Y5.out Y6.out Y7.out (numAt zs k) (numAt zs (k + 2)) (numAt zs (k + 4)) (numAt zs (k + 6)) rfl rfl rfl rfl).mono ?_
  rintro e w2 ⟨rfl, hb2⟩
  have hB2 : Below w.heap.size w w2 := hB1.trans (hb2.mono hB1.size)
  have hz2 := hB2.size
  replace f0 := frozen_still r0 f0 hb2
  replace r0 := cell_kept r0 hb2
  replace f1 := frozen_still r1 f1 hb2
  replace r1 := cell_kept r1 hb2
  replace f2 := frozen_still r2 f2 hb2
  replace r2 := cell_kept r2 hb2
  replace f3 := frozen_still r3 f3 hb2
  replace r3 := cell_kept r3 hb2
  have hrl : w.heap.size + 1 < w2.heap.size := block_lt_of_cell r0
  have hne : ¬ w.heap.size + 1 = w2.heap.size := by omega
  have hne' : ¬ w2.heap.size = w.heap.size + 1 := by omega
  clear hb2
  go_wp2
  refine ret_at (w.heap.size + 1) _ _ _ _ _ _ rfl (by go_simp) (by go_simp) (by go_simp) (by go_simp) rfl ⟨rfl, ?_⟩
  have h4 := ((((hB2.setCell (p := ⟨w.heap.size + 1, 0, none⟩) (Nat.le_succ _) (.int .u16 (numAt zs k))).setCell (p := ⟨w.heap.size + 1, 1, none⟩) (Nat.le_succ _) (.int .u16 (numAt zs (k + 2)))).setCell (p := ⟨w.heap.size + 1, 2, none⟩) (Nat.le_succ _) (.int .u16 (numAt zs (k + 4)))).setCell (p := ⟨w.heap.size + 1, 3, none⟩) (Nat.le_succ _) (.int .u16 (numAt zs (k + 6))))
  exact h4.alloc h4.size _

set_option maxRecDepth 100000 in
set_option maxHeartbeats 1000000 in
theorem implAt_out (x0 y0 x1 y1 s x y : Int) (A : Option Addr) (c : Nat) (zs : List Int) (w : World) (hr : Hid (Reads w A zs)) (hl : Small zs) (hn : Hid (A = none → c = 0))
    (hI : Hid (¬ Insd x0 y0 x1 y1 x y)) :
    Calls Try.prog 23 #[.agg #[.int .i64 x0, .int .i64 y0, .int .i64 x1, .int .i64 y1, .int .i64 s, .slice A zs.length c], .int .i64 x, .int .i64 y] w fun e w' => e = .returned (.agg #[.int .u16 0, .int .u16 0, .int .u16 0, .int .u16 0]) ∧ Below w.heap.size w w' := by
  go_enter Try.func23, Try.ntmps23
  go_wp2_with fail
  refine (to_any x0 y0 x1 y1 s A c zs _ (hr.out.below (((Below.refl _ _).alloc (Nat.le_refl _) _).alloc (by simp) _)) hl hn.out).mono ?_
  rintro e w1 ⟨g, A', c', rfl, hgb, hg, hown, hb1⟩
  have hB1 : Below w.heap.size w w1 := (((Below.refl _ _).alloc (Nat.le_refl _) _).alloc (by simp) _).trans (hb1.mono (by simp; omega))
  have r0 : w1.cell? ⟨w.heap.size + 1, 0, none⟩ = some (.int .u16 0) := ((bcell hb1).1 _ 0 (by simp)).trans (by simp)
  have f0 : w1.frozen? ⟨w.heap.size + 1, 0, none⟩ = false := ((bcell hb1).2 _ 0 (by simp)).trans (by simp)
  have r1 : w1.cell? ⟨w.heap.size + 1, 1, none⟩ = some (.int .u16 0) := ((bcell hb1).1 _ 1 (by simp)).trans (by simp)
  have f1 : w1.frozen? ⟨w.heap.size + 1, 1, none⟩ = false := ((bcell hb1).2 _ 1 (by simp)).trans (by simp)
  have r2 : w1.cell? ⟨w.heap.size + 1, 2, none⟩ = some (.int .u16 0) := ((bcell hb1).1 _ 2 (by simp)).trans (by simp)
  have f2 : w1.frozen? ⟨w.heap.size + 1, 2, none⟩ = false := ((bcell hb1).2 _ 2 (by simp)).trans (by simp)
  have r3 : w1.cell? ⟨w.heap.size + 1, 3, none⟩ = some (.int .u16 0) := ((bcell hb1).1 _ 3 (by simp)).trans (by simp)
  have f3 : w1.frozen? ⟨w.heap.size + 1, 3, none⟩ = false := ((bcell hb1).2 _ 3 (by simp)).trans (by simp)
  have HG := Lib.hid hg
  clear hg hown hb1
  go_wp2_with fail
  refine (at_out g A' c' zs s x0 y0 x1 y1 x y _ HG.out hI).mono ?_
  rintro e w2 ⟨rfl, hb2⟩
  have hB2 : Below w.heap.size w w2 := hB1.trans (hb2.mono hB1.size)
  have hz2 := hB2.size
  replace f0 := frozen_still r0 f0 hb2
  replace r0 := cell_kept r0 hb2
  replace f1 := frozen_still r1 f1 hb2
  replace r1 := cell_kept r1 hb2
  replace f2 := frozen_still r2 f2 hb2
  replace r2 := cell_kept r2 hb2
  replace f3 := frozen_still r3 f3 hb2
  replace r3 := cell_kept r3 hb2
  have hrl : w.heap.size + 1 < w2.heap.size := block_lt_of_cell r0
  have hne : ¬ w.heap.size + 1 = w2.heap.size := by omega
  have hne' : ¬ w2.heap.size = w.heap.size + 1 := by omega
  clear hb2
  go_wp2
  refine ret_at (w.heap.size + 1) _ _ _ _ _ _ rfl (by go_simp) (by go_simp) (by go_simp) (by go_simp) rfl ⟨rfl, ?_⟩
  have h4 := ((((hB2.setCell (p := ⟨w.heap.size + 1, 0, none⟩) (Nat.le_succ _) (.int .u16 0)).setCell (p := ⟨w.heap.size + 1, 1, none⟩) (Nat.le_succ _) (.int .u16 0)).setCell (p := ⟨w.heap.size + 1, 2, none⟩) (Nat.le_succ _) (.int .u16 0)).setCell (p := ⟨w.heap.size + 1, 3, none⟩) (Nat.le_succ _) (.int .u16 0))
  exact h4.alloc h4.size _

theorem number_at (b o c k : Nat) (zs : List Int) (i : Int) (hi : (k : Int) = i) (w : World) (hr : Reads w (some ⟨b, o, none⟩) zs) (hy : Bytes zs) (hl : Small zs) (hk : k + 1 < zs.length) :
    Calls Try.prog 48 #[.slice (some ⟨b, o, none⟩) zs.length c, .int .i64 i] w fun e w' => e = .returned (.int .u16 (numAt zs k)) ∧ Below w.heap.size w w' := by
  subst hi
  exact number_any b o c k zs w hr hy hl hk

set_option maxRecDepth 100000 in
set_option maxHeartbeats 1000000 in
theorem wide_any (b o c k : Nat) (zs : List Int) (w : World) (hr : Hid (Reads w (some ⟨b, o, none⟩) zs)) (hy : Hid (Bytes zs)) (hl : Small zs) (hk : Hid (k + 8 ≤ zs.length)) :
    Calls Try.prog 24 #[.slice (some ⟨b, o, none⟩) zs.length c, .int .i64 k] w fun e w' => e = .returned (.agg #[.int .u16 (numAt zs k), .int .u16 (numAt zs (k + 2)), .int .u16 (numAt zs (k + 4)), .int .u16 (numAt zs (k + 6))]) ∧ Below w.heap.size w w' := by
  have hkn : (k : Int) + 8 ≤ 140737488351232 := by have := hk.out; unfold Small at hl; omega
  have hk0 : (0 : Int) ≤ k := by omega
  have i2 : IntKind.i64.wrap ((k : Int) + 2) = (k : Int) + 2 := IntWalk.i64_in _ (by omega)
  have i4 : IntKind.i64.wrap ((k : Int) + 4) = (k : Int) + 4 := IntWalk.i64_in _ (by omega)
  have i6 : IntKind.i64.wrap ((k : Int) + 6) = (k : Int) + 6 := IntWalk.i64_in _ (by omega)
  have hA : ∀ Z, Below w.heap.size w (w.alloc Z) := fun Z => (Below.refl _ _).alloc (Nat.le_refl _) Z
  go_enter Try.func24, Try.ntmps24
  go_wp2_with fail
  refine (number_at b o c (k) zs _ (by first | rfl | omega) _ (hr.out.below (hA _)) hy.out hl (by have := hk.out; omega)).mono ?_
  rintro e u1 ⟨rfl, hv1⟩
  have hB1 : Below w.heap.size w u1 := (hA _).trans (hv1.mono (hA _).size)
  have f0 : u1.frozen? ⟨w.heap.size, 0, none⟩ = false := ((bcell hv1).2 _ 0 (by simp)).trans (by simp)
  have r0 : u1.cell? ⟨w.heap.size, 0, none⟩ = some (.int .u16 0) := ((bcell hv1).1 _ 0 (by simp)).trans (by simp)
  have f1 : u1.frozen? ⟨w.heap.size, 1, none⟩ = false := ((bcell hv1).2 _ 1 (by simp)).trans (by simp)
  have r1 : u1.cell? ⟨w.heap.size, 1, none⟩ = some (.int .u16 0) := ((bcell hv1).1 _ 1 (by simp)).trans (by simp)
  have f2 : u1.frozen? ⟨w.heap.size, 2, none⟩ = false := ((bcell hv1).2 _ 2 (by simp)).trans (by simp)
  have r2 : u1.cell? ⟨w.heap.size, 2, none⟩ = some (.int .u16 0) := ((bcell hv1).1 _ 2 (by simp)).trans (by simp)
  have f3 : u1.frozen? ⟨w.heap.size, 3, none⟩ = false := ((bcell hv1).2 _ 3 (by simp)).trans (by simp)
  have r3 : u1.cell? ⟨w.heap.size, 3, none⟩ = some (.int .u16 0) := ((bcell hv1).1 _ 3 (by simp)).trans (by simp)
  clear hv1
  go_wp2_with fail
  refine (number_at b o c (k + 2) zs _ (by first | rfl | omega) _ (hr.out.below hB1) hy.out hl (by have := hk.out; omega)).mono ?_
  rintro e u2 ⟨rfl, hv2⟩
  have hB2 : Below w.heap.size w u2 := hB1.trans (hv2.mono hB1.size)
  replace f0 := frozen_still r0 f0 hv2
  replace r0 := cell_kept r0 hv2
  replace f1 := frozen_still r1 f1 hv2
  replace r1 := cell_kept r1 hv2
  replace f2 := frozen_still r2 f2 hv2
  replace r2 := cell_kept r2 hv2
  replace f3 := frozen_still r3 f3 hv2
  replace r3 := cell_kept r3 hv2
  clear hv2
  go_wp2_with fail
  refine (number_at b o c (k + 4) zs _ (by first | rfl | omega) _ (hr.out.below hB2) hy.out hl (by have := hk.out; omega)).mono ?_
  rintro e u3 ⟨rfl, hv3⟩
  have hB3 : Below w.heap.size w u3 := hB2.trans (hv3.mono hB2.size)
  replace f0 := frozen_still r0 f0 hv3
  replace r0 := cell_kept r0 hv3
  replace f1 := frozen_still r1 f1 hv3
  replace r1 := cell_kept r1 hv3
  replace f2 := frozen_still r2 f2 hv3
  replace r2 := cell_kept r2 hv3
  replace f3 := frozen_still r3 f3 hv3
  replace r3 := cell_kept r3 hv3
  clear hv3
  go_wp2_with fail
  refine (number_at b o c (k + 6) zs _ (by first | rfl | omega) _ (hr.out.below hB3) hy.out hl (by have := hk.out; omega)).mono ?_
  rintro e u4 ⟨rfl, hv4⟩
  have hB4 : Below w.heap.size w u4 := hB3.trans (hv4.mono hB3.size)
  replace f0 := frozen_still r0 f0 hv4
  replace r0 := cell_kept r0 hv4
  replace f1 := frozen_still r1 f1 hv4
  replace r1 := cell_kept r1 hv4
  replace f2 := frozen_still r2 f2 hv4
  replace r2 := cell_kept r2 hv4
  replace f3 := frozen_still r3 f3 hv4
  replace r3 := cell_kept r3 hv4
  clear hv4
  go_wp2
  refine ret_wide w.heap.size _ _ _ _ _ _ rfl (by go_simp) (by go_simp) (by go_simp) (by go_simp) rfl ⟨rfl, ?_⟩
  exact (((hB4.setCell (Nat.le_refl _) _).setCell (Nat.le_refl _) _).setCell (Nat.le_refl _) _).setCell (Nat.le_refl _) _
theorem lawAt_unfit (x0 y0 x1 y1 s x y : Int) (A : Option Addr) (c : Nat) (zs : List Int) (w : World) (hr : Hid (Reads w A zs)) (hy : Hid (Bytes zs)) (hl : Small zs) (hn : Hid (A = none → c = 0)) (hF : Hid (¬ Fits x0 y0 x1 y1 s 8 zs.length)) :
    Calls Try.prog 5 #[.agg #[.int .i64 x0, .int .i64 y0, .int .i64 x1, .int .i64 y1, .int .i64 s, .slice A zs.length c], .int .i64 x, .int .i64 y] w fun e w' => e = .returned (.bool true) ∧ Below w.heap.size w w' := by
  go_enter Try.func5, Try.ntmps5
  go_wp2_with fail
  refine (fitsK_any x0 y0 x1 y1 s A c zs false (by simp [hF.out]) _).mono ?_
  rintro e w1 ⟨rfl, hb1⟩
  obtain ⟨hz1, hB1, c10, c11, c12, c13, c14, c15⟩ := keep6 hb1 (start6 w _ _ _ _ _ _ _ )
  clear hb1
  go_wp2
  go_ret
  exact ⟨by simp, hB1⟩

theorem lawAt_out (x0 y0 x1 y1 s x y : Int) (A : Option Addr) (c : Nat) (zs : List Int) (w : World) (hr : Hid (Reads w A zs)) (hy : Hid (Bytes zs)) (hl : Small zs) (hn : Hid (A = none → c = 0)) (hF : Hid (Fits x0 y0 x1 y1 s 8 zs.length)) (hI : Hid (¬ Insd x0 y0 x1 y1 x y)) :
    Calls Try.prog 5 #[.agg #[.int .i64 x0, .int .i64 y0, .int .i64 x1, .int .i64 y1, .int .i64 s, .slice A zs.length c], .int .i64 x, .int .i64 y] w fun e w' => e = .returned (.bool true) ∧ Below w.heap.size w w' := by
  go_enter Try.func5, Try.ntmps5
  go_wp2_with fail
  refine (fitsK_any x0 y0 x1 y1 s A c zs true (by simp [hF.out]) _).mono ?_
  rintro e w1 ⟨rfl, hb1⟩
  obtain ⟨hz1, hB1, c10, c11, c12, c13, c14, c15⟩ := keep6 hb1 (start6 w _ _ _ _ _ _ _ )
  clear hb1
  go_wp2_with fail
  refine (inside_any x0 y0 x1 y1 x y false (by simp [hI.out]) _).mono ?_
  rintro e w2 ⟨rfl, hb2⟩
  obtain ⟨hz2, hB2, c20, c21, c22, c23, c24, c25⟩ := keep6 hb2 ⟨hz1, hB1, c10, c11, c12, c13, c14, c15⟩
  clear hb2 hz1 hB1 c10 c11 c12 c13 c14 c15
  go_wp2
  go_ret
  exact ⟨by simp, hB2⟩

set_option maxRecDepth 100000 in
set_option maxHeartbeats 1000000 in
theorem lawAt_in (x0 y0 x1 y1 s x y : Int) (A : Option Addr) (c : Nat) (zs : List Int) (w : World) (hr : Hid (Reads w A zs)) (hy : Hid (Bytes zs)) (hl : Small zs) (hn : Hid (A = none → c = 0)) (hF : Hid (Fits x0 y0 x1 y1 s 8 zs.length)) (hI : Hid (Insd x0 y0 x1 y1 x y)) :
    Calls Try.prog 5 #[.agg #[.int .i64 x0, .int .i64 y0, .int .i64 x1, .int .i64 y1, .int .i64 s, .slice A zs.length c], .int .i64 x, .int .i64 y] w fun e w' => e = .returned (.bool true) ∧ Below w.heap.size w w' := by
  obtain ⟨b1, b2, b3, b4⟩ : -4398046511104 ≤ y - y0 ∧ y - y0 ≤ 4398046511104 ∧ -4398046511104 ≤ x - x0 ∧ x - x0 ≤ 4398046511104 := near_point hF.out hI.out
  obtain ⟨p1, p2⟩ : -2305843009213693952 ≤ (y - y0) * s ∧ (y - y0) * s ≤ 2305843009213693952 := (by have := hF.out.prods hI.out; omega)
  obtain ⟨k, hK, hk⟩ := hF.out.place (z := 8) rfl hI.out
  have HK := Lib.hid hK
  have Hk : Hid (k + 8 ≤ zs.length) := by unfold Hid; omega
  clear hK hk
  obtain ⟨b, o, rfl⟩ := hr.out.addr (by have := Hk.out; omega)
  go_enter Try.func5, Try.ntmps5
  go_wp2_with fail
  refine (fitsK_any x0 y0 x1 y1 s _ c zs true (by simp [hF.out]) _).mono ?_
  rintro e w1 ⟨rfl, hb1⟩
  obtain ⟨hz1, hB1, c10, c11, c12, c13, c14, c15⟩ := keep6 hb1 (start6 w _ _ _ _ _ _ _ )
  clear hb1
  go_wp2_with fail
  refine (inside_any x0 y0 x1 y1 x y true (by simp [hI.out]) _).mono ?_
  rintro e w2 ⟨rfl, hb2⟩
  obtain ⟨hz2, hB2, c20, c21, c22, c23, c24, c25⟩ := keep6 hb2 ⟨hz1, hB1, c10, c11, c12, c13, c14, c15⟩
  clear hb2 hz1 hB1 c10 c11 c12 c13 c14 c15
  go_wp2
  go_region_held3 (fun w' => w.heap.size < w'.heap.size ∧ Below w.heap.size w w' ∧ w'.cell? ⟨w.heap.size, 0, none⟩ = some (.int .i64 x0) ∧ w'.cell? ⟨w.heap.size, 1, none⟩ = some (.int .i64 y0) ∧ w'.cell? ⟨w.heap.size, 2, none⟩ = some (.int .i64 x1) ∧ w'.cell? ⟨w.heap.size, 3, none⟩ = some (.int .i64 y1) ∧ w'.cell? ⟨w.heap.size, 4, none⟩ = some (.int .i64 s) ∧ w'.cell? ⟨w.heap.size, 5, none⟩ = some ((.slice (some ⟨b, o, none⟩) zs.length c)))
    (first | exact ⟨hz2, hB2.drew, c20, c21, c22, c23, c24, c25⟩ | exact keep6 (by assumption) (by assumption))
    (first | (go_at_call 23; refine (implAt_in x0 y0 x1 y1 s x y _ c k zs _ ?_ hy hl hn hI HK b1 b2 b3 b4 p1 p2 Hk).mono ?_; exact hr.out.below (heldB (by assumption)); rintro e w7 ⟨rfl, hb7⟩) | (go_at_call 19; refine (atK_any x0 y0 x1 y1 s x y _ c zs _ b1 b2 b3 b4 p1 p2).mono ?_; rintro e w8 ⟨rfl, hb8⟩; rw [HK.out]) | (go_at_call 24; refine (wide_any b o c k zs _ ?_ hy hl Hk).mono ?_; exact hr.out.below (heldB (by assumption)); rintro e w9 ⟨rfl, hb9⟩))
  rename_i hS
  go_wp2
  go_ret
  exact ⟨by simp, hS.2.1⟩

theorem walk_at (x0 y0 x1 y1 s x y : Int) (A : Option Addr) (c : Nat) (zs : List Int) (w : World) (hr : Hid (Reads w A zs)) (hy : Hid (Bytes zs)) (hl : Small zs) (hn : Hid (A = none → c = 0)) :
    Calls Try.prog 5 #[.agg #[.int .i64 x0, .int .i64 y0, .int .i64 x1, .int .i64 y1, .int .i64 s, .slice A zs.length c], .int .i64 x, .int .i64 y] w fun e w' => e = .returned (.bool true) ∧ Below w.heap.size w w' := by
  by_cases hF : Fits x0 y0 x1 y1 s 8 zs.length
  · by_cases hI : Insd x0 y0 x1 y1 x y
    · exact lawAt_in x0 y0 x1 y1 s x y A c zs w hr hy hl hn hF hI
    · exact lawAt_out x0 y0 x1 y1 s x y A c zs w hr hy hl hn hF hI
  · exact lawAt_unfit x0 y0 x1 y1 s x y A c zs w hr hy hl hn hF

end Go.Proofs.Ythpgfmgjfadjhaa
