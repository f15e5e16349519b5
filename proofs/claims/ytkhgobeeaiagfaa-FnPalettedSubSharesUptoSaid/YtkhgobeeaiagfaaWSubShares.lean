/- The walk of the law FnPalettedSubShares. -/
import Derived.Test.YtkhgobeeaiagfaaComAny
import Derived.Test.YtkhgobeeaiagfaaIndex
namespace Go.Proofs.Ytkhgobeeaiagfaa
open Go.RowKit
set_option linter.unusedVariables false
set_option linter.unusedSimpArgs false

theorem list2 {α : Type} {l : List α} (h : l.length = 2) : ∃ a b, l = [a, b] := by
  match l, h with
  | [a, b], _ => exact ⟨a, b, rfl⟩
theorem steps2 {w : World} {t : TypeId} (p q : StepD) : StepsAt (w.alloc (.cells (stepV p ++ stepV q).toArray t)) (some ⟨w.heap.size, 0, none⟩) [p, q] := by
  refine ⟨(fun e => by cases e), fun ad e i r hr j v hv => ?_⟩
  injection e with e
  subst e
  have hj : j < 13 := by
    rcases Nat.lt_or_ge j 13 with h0 | h0
    · exact h0
    · rw [List.getElem?_eq_none (by simpa [stepV] using h0)] at hv; cases hv
  have hadd : ∀ m, (⟨w.heap.size, 0, none⟩ : Addr).add m = ⟨w.heap.size, m, none⟩ := fun m => by unfold Addr.add; split <;> simp_all
  have hlen : (stepV p).length = 13 := rfl
  rw [hadd, cell_of_row (w.alloc _) w.heap.size _ _ _ _ (heap_alloc_new w _)]
  show (stepV p ++ stepV q).toArray[i * 13 + j]? = some v
  rw [List.getElem?_toArray]
  match i, hr with
  | 0, hr =>
    simp at hr
    subst hr
    rw [List.getElem?_append_left (by omega)]
    simpa using hv
  | 1, hr =>
    simp at hr
    subst hr
    rw [List.getElem?_append_right (by omega), hlen, show 1 * 13 + j - 13 = j by omega]
    exact hv

/-- What two steps make: a part, and a pixel set in the image or in its part. -/
theorem shares_plain {x0 y0 x1 y1 s : Int} {zs : List Int} (hF : Fits x0 y0 x1 y1 s 1 zs.length) (p q : StepD) (hp1 : p.op = 1) (hp2 : p.im = 0) (hq1 : q.op = 0) (hq2 : q.im = 0 ∨ q.im = 1)
    (n5 : max x0 p.r0 < min x1 p.r2) (n6 : max y0 p.r1 < min y1 p.r3) (hI : Insd (max x0 p.r0) (max y0 p.r1) (min x1 p.r2) (min y1 p.r3) q.x q.y) :
    ∃ (k j : Nat), (q.y - max y0 p.r1) * s + (q.x - max x0 p.r0) * 1 = j ∧ (q.y - y0) * s + (q.x - x0) * 1 = ((k + j : Nat) : Int) ∧ k + j + 1 ≤ zs.length ∧
      runG s (zs, [firstV x0 y0 x1 y1]) [p, q] = (putS zs (k + j) q, [firstV x0 y0 x1 y1, ⟨max x0 p.r0, max y0 p.r1, min x1 p.r2, min y1 p.r3, k, true⟩]) ∧ Fits (max x0 p.r0) (max y0 p.r1) (min x1 p.r2) (min y1 p.r3) s 1 ((zs.length - k : Nat) : Int) := by
  have hI0 : Insd x0 y0 x1 y1 (max x0 p.r0) (max y0 p.r1) := (within_of x0 y0 x1 y1 p.r0 p.r1 p.r2 p.r3).insd ⟨Int.le_refl _, n5, Int.le_refl _, n6⟩
  have hIq : Insd x0 y0 x1 y1 q.x q.y := (within_of x0 y0 x1 y1 p.r0 p.r1 p.r2 p.r3).insd hI
  have hon : (firstV x0 y0 x1 y1).on = true := by
    simp [firstV]
    intro h
    unfold Empt at h
    unfold Insd at hI0
    omega
  obtain ⟨k, hk, hkn⟩ := hF.place (z := 1) rfl hI0
  have hF2 := fits_sub hF (within_of x0 y0 x1 y1 p.r0 p.r1 p.r2 p.r3) n5 n6 hk (by omega)
  obtain ⟨j, hj, hjn⟩ := hF2.place (z := 1) rfl hI
  have hsum : (q.y - y0) * s + (q.x - x0) * 1 = ((k + j : Nat) : Int) := by rw [offs_split (max x0 p.r0) (max y0 p.r1) x0 y0 s q.x q.y, hk, hj]; omega
  refine ⟨k, j, hj, hsum, by omega, ?_, hF2⟩
  have hM : Meets (firstV x0 y0 x1 y1) p := ⟨hon, n5, n6⟩
  have h1 : stepG s (zs, [firstV x0 y0 x1 y1]) p = (zs, [firstV x0 y0 x1 y1, ⟨max x0 p.r0, max y0 p.r1, min x1 p.r2, min y1 p.r3, k, true⟩]) := by
    rw [stepG_sub s _ p (by omega) (by simp; omega) hp1, hp2]
    show (zs, [firstV x0 y0 x1 y1] ++ [seenV s (firstV x0 y0 x1 y1) p]) = _
    unfold seenV
    rw [if_pos hM]
    show (zs, [firstV x0 y0 x1 y1] ++ [(⟨max x0 p.r0, max y0 p.r1, min x1 p.r2, min y1 p.r3, 0 + ((max y0 p.r1 - y0) * s + (max x0 p.r0 - x0) * 1).toNat, true⟩ : ViewD)]) = _
    rw [hk, Int.toNat_natCast, Nat.zero_add]
    rfl
  show stepG s (stepG s (zs, [firstV x0 y0 x1 y1]) p) q = _
  rw [h1, stepG_set s _ q (by omega) (by simp; omega) hq1]
  rcases hq2 with hq2 | hq2
  · rw [hq2]
    show (setV s zs (firstV x0 y0 x1 y1) q, _) = _
    unfold setV
    rw [if_pos ⟨hon, hIq⟩]
    show (putS zs (0 + ((q.y - y0) * s + (q.x - x0) * 1).toNat) q, _) = _
    rw [hsum, Int.toNat_natCast, Nat.zero_add]
  · rw [hq2]
    show (setV s zs ⟨max x0 p.r0, max y0 p.r1, min x1 p.r2, min y1 p.r3, k, true⟩ q, _) = _
    unfold setV
    rw [if_pos ⟨rfl, hI⟩]
    show (putS zs (k + ((q.y - max y0 p.r1) * s + (q.x - max x0 p.r0) * 1).toNat) q, _) = _
    rw [hj, Int.toNat_natCast]

set_option maxRecDepth 100000 in
set_option maxHeartbeats 8000000 in
theorem sh_unfit (x0 y0 x1 y1 s : Int) (A : Option Addr) (c : Nat) (zs : List Int) (B : Option Addr) (k : Nat) (ps : List (Int × Int × Int × Int)) (a0 b0 a1 b1 x y v : Int) (w : World) (hr : Hid (Reads w A zs)) (hy : Hid (Bytes zs)) (hl : Small zs) (hn : Hid (A = none → c = 0)) (pr : Hid (PReads w B ps)) (pl : (ps.length : Int) ≤ 2097152) (t0 : 0 ≤ v) (t1 : v ≤ 255) (C0 C1 C2 C3 : Int) (cb : Bool) (hC : Hid (ComOf x0 y0 x1 y1 a0 b0 a1 b1 C0 C1 C2 C3 cb)) (hF : Hid (¬ Fits x0 y0 x1 y1 s 1 zs.length)) :
    Calls Try.prog 14 #[.agg #[.int .i64 x0, .int .i64 y0, .int .i64 x1, .int .i64 y1, .int .i64 s, .slice A zs.length c, .slice B ps.length k], .agg #[.int .i64 a0, .int .i64 b0, .int .i64 a1, .int .i64 b1], .int .i64 x, .int .i64 y, .int .u8 v] w fun e w' => e = .returned (.bool true) ∧ Below w.heap.size w w' := by
  have hB : Below w.heap.size w ((w.alloc (.cells #[.int .i64 x0, .int .i64 y0, .int .i64 x1, .int .i64 y1, .int .i64 s, .slice A zs.length c, .slice B ps.length k] 27)).alloc (.cells #[.int .i64 a0, .int .i64 b0, .int .i64 a1, .int .i64 b1] 23)) := ((Below.refl _ _).alloc (Nat.le_refl _) _).alloc (by simp) _
  have D0 : ((w.alloc (.cells #[.int .i64 x0, .int .i64 y0, .int .i64 x1, .int .i64 y1, .int .i64 s, .slice A zs.length c, .slice B ps.length k] 27)).alloc (.cells #[.int .i64 a0, .int .i64 b0, .int .i64 a1, .int .i64 b1] 23)).cell? ⟨w.heap.size, 0, none⟩ = some (.int .i64 x0) := by first | (simp; done) | go_simp
  have D1 : ((w.alloc (.cells #[.int .i64 x0, .int .i64 y0, .int .i64 x1, .int .i64 y1, .int .i64 s, .slice A zs.length c, .slice B ps.length k] 27)).alloc (.cells #[.int .i64 a0, .int .i64 b0, .int .i64 a1, .int .i64 b1] 23)).cell? ⟨w.heap.size, 1, none⟩ = some (.int .i64 y0) := by first | (simp; done) | go_simp
  have D2 : ((w.alloc (.cells #[.int .i64 x0, .int .i64 y0, .int .i64 x1, .int .i64 y1, .int .i64 s, .slice A zs.length c, .slice B ps.length k] 27)).alloc (.cells #[.int .i64 a0, .int .i64 b0, .int .i64 a1, .int .i64 b1] 23)).cell? ⟨w.heap.size, 2, none⟩ = some (.int .i64 x1) := by first | (simp; done) | go_simp
  have D3 : ((w.alloc (.cells #[.int .i64 x0, .int .i64 y0, .int .i64 x1, .int .i64 y1, .int .i64 s, .slice A zs.length c, .slice B ps.length k] 27)).alloc (.cells #[.int .i64 a0, .int .i64 b0, .int .i64 a1, .int .i64 b1] 23)).cell? ⟨w.heap.size, 3, none⟩ = some (.int .i64 y1) := by first | (simp; done) | go_simp
  have D4 : ((w.alloc (.cells #[.int .i64 x0, .int .i64 y0, .int .i64 x1, .int .i64 y1, .int .i64 s, .slice A zs.length c, .slice B ps.length k] 27)).alloc (.cells #[.int .i64 a0, .int .i64 b0, .int .i64 a1, .int .i64 b1] 23)).cell? ⟨w.heap.size, 4, none⟩ = some (.int .i64 s) := by first | (simp; done) | go_simp
  have D5 : ((w.alloc (.cells #[.int .i64 x0, .int .i64 y0, .int .i64 x1, .int .i64 y1, .int .i64 s, .slice A zs.length c, .slice B ps.length k] 27)).alloc (.cells #[.int .i64 a0, .int .i64 b0, .int .i64 a1, .int .i64 b1] 23)).cell? ⟨w.heap.size, 5, none⟩ = some (.slice A zs.length c) := by first | (simp; done) | go_simp
  have D6 : ((w.alloc (.cells #[.int .i64 x0, .int .i64 y0, .int .i64 x1, .int .i64 y1, .int .i64 s, .slice A zs.length c, .slice B ps.length k] 27)).alloc (.cells #[.int .i64 a0, .int .i64 b0, .int .i64 a1, .int .i64 b1] 23)).cell? ⟨w.heap.size, 6, none⟩ = some (.slice B ps.length k) := by first | (simp; done) | go_simp
  have R0 : ((w.alloc (.cells #[.int .i64 x0, .int .i64 y0, .int .i64 x1, .int .i64 y1, .int .i64 s, .slice A zs.length c, .slice B ps.length k] 27)).alloc (.cells #[.int .i64 a0, .int .i64 b0, .int .i64 a1, .int .i64 b1] 23)).cell? ⟨w.heap.size + 1, 0, none⟩ = some (.int .i64 a0) := by first | (simp; done) | go_simp
  have R1 : ((w.alloc (.cells #[.int .i64 x0, .int .i64 y0, .int .i64 x1, .int .i64 y1, .int .i64 s, .slice A zs.length c, .slice B ps.length k] 27)).alloc (.cells #[.int .i64 a0, .int .i64 b0, .int .i64 a1, .int .i64 b1] 23)).cell? ⟨w.heap.size + 1, 1, none⟩ = some (.int .i64 b0) := by first | (simp; done) | go_simp
  have R2 : ((w.alloc (.cells #[.int .i64 x0, .int .i64 y0, .int .i64 x1, .int .i64 y1, .int .i64 s, .slice A zs.length c, .slice B ps.length k] 27)).alloc (.cells #[.int .i64 a0, .int .i64 b0, .int .i64 a1, .int .i64 b1] 23)).cell? ⟨w.heap.size + 1, 2, none⟩ = some (.int .i64 a1) := by first | (simp; done) | go_simp
  have R3 : ((w.alloc (.cells #[.int .i64 x0, .int .i64 y0, .int .i64 x1, .int .i64 y1, .int .i64 s, .slice A zs.length c, .slice B ps.length k] 27)).alloc (.cells #[.int .i64 a0, .int .i64 b0, .int .i64 a1, .int .i64 b1] 23)).cell? ⟨w.heap.size + 1, 3, none⟩ = some (.int .i64 b1) := by first | (simp; done) | go_simp
  have tok1 : True := trivial
  go_enter Try.func14, Try.ntmps14
  go_wp2_with fail
  generalize (w.alloc (.cells #[.int .i64 x0, .int .i64 y0, .int .i64 x1, .int .i64 y1, .int .i64 s, .slice A zs.length c, .slice B ps.length k] 27)).alloc (.cells #[.int .i64 a0, .int .i64 b0, .int .i64 a1, .int .i64 b1] 23) = W0 at *
  generalize w.heap.size + 1 = br at *
  go_upto_region 1 with fail
  have P0 : Below W0.heap.size W0 W0.drew := (Below.refl _ _).drew
  have P0a : Below W0.heap.size W0 (W0.alloc (.cells #[.int .i64 0, .int .i64 0, .int .i64 0, .int .i64 0] 33)).drew := ((Below.refl _ _).alloc (Nat.le_refl _) _).drew
  have toS : ∀ W' : World, Below W0.heap.size W0 W' → (W'.cell? ⟨w.heap.size, 0, none⟩ = some (.int .i64 x0) ∧ W'.cell? ⟨w.heap.size, 1, none⟩ = some (.int .i64 y0) ∧ W'.cell? ⟨w.heap.size, 2, none⟩ = some (.int .i64 x1) ∧ W'.cell? ⟨w.heap.size, 3, none⟩ = some (.int .i64 y1) ∧ W'.cell? ⟨br, 0, none⟩ = some (.int .i64 a0) ∧ W'.cell? ⟨br, 1, none⟩ = some (.int .i64 b0) ∧ W'.cell? ⟨br, 2, none⟩ = some (.int .i64 a1) ∧ W'.cell? ⟨br, 3, none⟩ = some (.int .i64 b1)) := fun W' h => ⟨cell_kept D0 h, cell_kept D1 h, cell_kept D2 h, cell_kept D3 h, cell_kept R0 h, cell_kept R1 h, cell_kept R2 h, cell_kept R3 h⟩
  have TOS := Lib.hid toS
  clear toS
  go_cut [11, 12] (fun pp qq wx => ∃ bc : Nat, pp = .pointer (some ⟨bc, 0, none⟩) ∧ qq = .bool cb ∧ W0.heap.size ≤ bc ∧ bc < wx.heap.size ∧ Below W0.heap.size W0 wx ∧ wx.cell? ⟨bc, 0, none⟩ = some (.int .i64 C0) ∧ wx.cell? ⟨bc, 1, none⟩ = some (.int .i64 C1) ∧ wx.cell? ⟨bc, 2, none⟩ = some (.int .i64 C2) ∧ wx.cell? ⟨bc, 3, none⟩ = some (.int .i64 C3))
  case first =>
    go_region_held3 (fun w' => w'.cell? ⟨w.heap.size, 0, none⟩ = some (.int .i64 x0) ∧ w'.cell? ⟨w.heap.size, 1, none⟩ = some (.int .i64 y0) ∧ w'.cell? ⟨w.heap.size, 2, none⟩ = some (.int .i64 x1) ∧ w'.cell? ⟨w.heap.size, 3, none⟩ = some (.int .i64 y1) ∧ w'.cell? ⟨br, 0, none⟩ = some (.int .i64 a0) ∧ w'.cell? ⟨br, 1, none⟩ = some (.int .i64 b0) ∧ w'.cell? ⟨br, 2, none⟩ = some (.int .i64 a1) ∧ w'.cell? ⟨br, 3, none⟩ = some (.int .i64 b1))
      ((refine TOS.out _ ?_; first | with_reducible exact P0 | with_reducible exact P0a | with_reducible exact P1 | with_reducible exact P1.alloc P1.size _ | with_reducible exact P2 | with_reducible exact P2.alloc P2.size _ | with_reducible exact P3 | with_reducible exact P3.alloc P3.size _ | with_reducible exact ((((P3.setCell (Nat.le_refl _) _).setCell (Nat.le_refl _) _).setCell (Nat.le_refl _) _).setCell (Nat.le_refl _) _) | with_reducible exact ((((P3.setCell P1.size _).setCell P1.size _).setCell P1.size _).setCell P1.size _) | with_reducible exact ((((P3.setCell P2.size _).setCell P2.size _).setCell P2.size _).setCell P2.size _)))
      (first | (go_at_call 20; have _t := tok1; refine (box_any x0 y0 x1 y1 _).mono ?_; rintro e u1 ⟨rfl, hv1⟩; clear tok1; (first | (have P1 : Below W0.heap.size W0 u1 := P0.trans (hv1.mono P0.size); skip) | (have P1 : Below W0.heap.size W0 u1 := P0a.trans (hv1.mono P0a.size); have zc0 : u1.cell? ⟨W0.heap.size, 0, none⟩ = some (.int .i64 0) := ((bcell hv1).1 _ 0 (by simp)).trans (by simp); have zf0 : u1.frozen? ⟨W0.heap.size, 0, none⟩ = false := ((bcell hv1).2 _ 0 (by simp)).trans (by simp); have zc1 : u1.cell? ⟨W0.heap.size, 1, none⟩ = some (.int .i64 0) := ((bcell hv1).1 _ 1 (by simp)).trans (by simp); have zf1 : u1.frozen? ⟨W0.heap.size, 1, none⟩ = false := ((bcell hv1).2 _ 1 (by simp)).trans (by simp); have zc2 : u1.cell? ⟨W0.heap.size, 2, none⟩ = some (.int .i64 0) := ((bcell hv1).1 _ 2 (by simp)).trans (by simp); have zf2 : u1.frozen? ⟨W0.heap.size, 2, none⟩ = false := ((bcell hv1).2 _ 2 (by simp)).trans (by simp); have zc3 : u1.cell? ⟨W0.heap.size, 3, none⟩ = some (.int .i64 0) := ((bcell hv1).1 _ 3 (by simp)).trans (by simp); have zf3 : u1.frozen? ⟨W0.heap.size, 3, none⟩ = false := ((bcell hv1).2 _ 3 (by simp)).trans (by simp)))) | (go_at_call 20; refine (box_any a0 b0 a1 b1 _).mono ?_; rintro e u2 ⟨rfl, hv2⟩; (first | (have P2 : Below W0.heap.size W0 u2 := P1.trans (hv2.mono P1.size); (try (replace zf0 := frozenK zc0 zf0 hv2; replace zc0 := cell_kept zc0 hv2; replace zf1 := frozenK zc1 zf1 hv2; replace zc1 := cell_kept zc1 hv2; replace zf2 := frozenK zc2 zf2 hv2; replace zc2 := cell_kept zc2 hv2; replace zf3 := frozenK zc3 zf3 hv2; replace zc3 := cell_kept zc3 hv2))) | (have P2 : Below W0.heap.size W0 u2 := (P1.alloc P1.size (.cells #[.int .i64 0, .int .i64 0, .int .i64 0, .int .i64 0] 33)).trans (hv2.mono (P1.alloc P1.size (.cells #[.int .i64 0, .int .i64 0, .int .i64 0, .int .i64 0] 33)).size); have zc0 : u2.cell? ⟨u1.heap.size, 0, none⟩ = some (.int .i64 0) := ((bcell hv2).1 _ 0 (by simp)).trans (by simp); have zf0 : u2.frozen? ⟨u1.heap.size, 0, none⟩ = false := ((bcell hv2).2 _ 0 (by simp)).trans (by simp); have zc1 : u2.cell? ⟨u1.heap.size, 1, none⟩ = some (.int .i64 0) := ((bcell hv2).1 _ 1 (by simp)).trans (by simp); have zf1 : u2.frozen? ⟨u1.heap.size, 1, none⟩ = false := ((bcell hv2).2 _ 1 (by simp)).trans (by simp); have zc2 : u2.cell? ⟨u1.heap.size, 2, none⟩ = some (.int .i64 0) := ((bcell hv2).1 _ 2 (by simp)).trans (by simp); have zf2 : u2.frozen? ⟨u1.heap.size, 2, none⟩ = false := ((bcell hv2).2 _ 2 (by simp)).trans (by simp); have zc3 : u2.cell? ⟨u1.heap.size, 3, none⟩ = some (.int .i64 0) := ((bcell hv2).1 _ 3 (by simp)).trans (by simp); have zf3 : u2.frozen? ⟨u1.heap.size, 3, none⟩ = false := ((bcell hv2).2 _ 3 (by simp)).trans (by simp)))) | (go_at_call 35; refine (common_any x0 y0 x1 y1 a0 b0 a1 b1 C0 C1 C2 C3 cb hC.out _).mono ?_; rintro e u3 ⟨rfl, hv3⟩; (first | (have P3 : Below W0.heap.size W0 u3 := P2.trans (hv3.mono P2.size); (try (replace zf0 := frozenK zc0 zf0 hv3; replace zc0 := cell_kept zc0 hv3; replace zf1 := frozenK zc1 zf1 hv3; replace zc1 := cell_kept zc1 hv3; replace zf2 := frozenK zc2 zf2 hv3; replace zc2 := cell_kept zc2 hv3; replace zf3 := frozenK zc3 zf3 hv3; replace zc3 := cell_kept zc3 hv3))) | (have P3 : Below W0.heap.size W0 u3 := (P2.alloc P2.size (.cells #[.int .i64 0, .int .i64 0, .int .i64 0, .int .i64 0] 33)).trans (hv3.mono (P2.alloc P2.size (.cells #[.int .i64 0, .int .i64 0, .int .i64 0, .int .i64 0] 33)).size); have zc0 : u3.cell? ⟨u2.heap.size, 0, none⟩ = some (.int .i64 0) := ((bcell hv3).1 _ 0 (by simp)).trans (by simp); have zf0 : u3.frozen? ⟨u2.heap.size, 0, none⟩ = false := ((bcell hv3).2 _ 0 (by simp)).trans (by simp); have zc1 : u3.cell? ⟨u2.heap.size, 1, none⟩ = some (.int .i64 0) := ((bcell hv3).1 _ 1 (by simp)).trans (by simp); have zf1 : u3.frozen? ⟨u2.heap.size, 1, none⟩ = false := ((bcell hv3).2 _ 1 (by simp)).trans (by simp); have zc2 : u3.cell? ⟨u2.heap.size, 2, none⟩ = some (.int .i64 0) := ((bcell hv3).1 _ 2 (by simp)).trans (by simp); have zf2 : u3.frozen? ⟨u2.heap.size, 2, none⟩ = false := ((bcell hv3).2 _ 2 (by simp)).trans (by simp); have zc3 : u3.cell? ⟨u2.heap.size, 3, none⟩ = some (.int .i64 0) := ((bcell hv3).1 _ 3 (by simp)).trans (by simp); have zf3 : u3.frozen? ⟨u2.heap.size, 3, none⟩ = false := ((bcell hv3).2 _ 3 (by simp)).trans (by simp)))))
    all_goals
      go_wp2_with fail
      go_meet
      have z1 := P1.size
      have z2 := P2.size
      have z3 := P3.size
      have y2 := hv2.size
      have y3 := hv3.size
      first
        | exact ⟨u3.heap.size, rfl, rfl, P3.size, by simp, P3.alloc P3.size _, by simp, by simp, by simp, by simp⟩
        | exact ⟨W0.heap.size, rfl, rfl, Nat.le_refl _, lt_sets (World.block_lt_of_cell? _ _ zc0) (by simp [World.setCell]), ((((P3.setCell (Nat.le_refl _) _).setCell (Nat.le_refl _) _).setCell (Nat.le_refl _) _).setCell (Nat.le_refl _) _), by go_simp, by go_simp, by go_simp, by go_simp⟩
        | exact ⟨u1.heap.size, rfl, rfl, P1.size, lt_sets (World.block_lt_of_cell? _ _ zc0) (by simp [World.setCell]), ((((P3.setCell P1.size _).setCell P1.size _).setCell P1.size _).setCell P1.size _), by go_simp, by go_simp, by go_simp, by go_simp⟩
        | exact ⟨u2.heap.size, rfl, rfl, P2.size, lt_sets (World.block_lt_of_cell? _ _ zc0) (by simp [World.setCell]), ((((P3.setCell P2.size _).setCell P2.size _).setCell P2.size _).setCell P2.size _), by go_simp, by go_simp, by go_simp, by go_simp⟩
  case rest =>
    clear TOS P0 P0a
    obtain ⟨bc, rfl, rfl, hbc, hbl, hBm, cc0, cc1, cc2, cc3⟩ := hcut
    replace D0 := cell_kept D0 hBm
    replace D1 := cell_kept D1 hBm
    replace D2 := cell_kept D2 hBm
    replace D3 := cell_kept D3 hBm
    replace D4 := cell_kept D4 hBm
    replace D5 := cell_kept D5 hBm
    replace D6 := cell_kept D6 hBm
    replace R0 := cell_kept R0 hBm
    replace R1 := cell_kept R1 hBm
    replace R2 := cell_kept R2 hBm
    replace R3 := cell_kept R3 hBm
    replace hB := hB.trans (hBm.mono hB.size)
    clear hBm hbc
    go_wp2_with fail
    refine (fitsK_any x0 y0 x1 y1 s A c zs B k ps false (by simp [hF.out]) _).mono ?_
    rintro e w1 ⟨rfl, hb1⟩
    replace D0 := cell_kept D0 hb1
    replace D1 := cell_kept D1 hb1
    replace D2 := cell_kept D2 hb1
    replace D3 := cell_kept D3 hb1
    replace D4 := cell_kept D4 hb1
    replace D5 := cell_kept D5 hb1
    replace D6 := cell_kept D6 hb1
    replace R0 := cell_kept R0 hb1
    replace R1 := cell_kept R1 hb1
    replace R2 := cell_kept R2 hb1
    replace R3 := cell_kept R3 hb1
    replace cc0 := cell_kept cc0 hb1
    replace cc1 := cell_kept cc1 hb1
    replace cc2 := cell_kept cc2 hb1
    replace cc3 := cell_kept cc3 hb1
    replace hB := hB.trans (hb1.mono hB.size)
    clear hb1
    go_wp2
    go_ret
    exact ⟨by simp, hB⟩

set_option maxRecDepth 100000 in
set_option maxHeartbeats 8000000 in
theorem sh_far (x0 y0 x1 y1 s : Int) (A : Option Addr) (c : Nat) (zs : List Int) (B : Option Addr) (k : Nat) (ps : List (Int × Int × Int × Int)) (a0 b0 a1 b1 x y v : Int) (w : World) (hr : Hid (Reads w A zs)) (hy : Hid (Bytes zs)) (hl : Small zs) (hn : Hid (A = none → c = 0)) (pr : Hid (PReads w B ps)) (pl : (ps.length : Int) ≤ 2097152) (t0 : 0 ≤ v) (t1 : v ≤ 255) (C0 C1 C2 C3 : Int) (cb : Bool) (hC : Hid (ComOf x0 y0 x1 y1 a0 b0 a1 b1 C0 C1 C2 C3 cb)) (hF : Hid (Fits x0 y0 x1 y1 s 1 zs.length)) (hN : Hid (¬ Near4 a0 b0 a1 b1)) :
    Calls Try.prog 14 #[.agg #[.int .i64 x0, .int .i64 y0, .int .i64 x1, .int .i64 y1, .int .i64 s, .slice A zs.length c, .slice B ps.length k], .agg #[.int .i64 a0, .int .i64 b0, .int .i64 a1, .int .i64 b1], .int .i64 x, .int .i64 y, .int .u8 v] w fun e w' => e = .returned (.bool true) ∧ Below w.heap.size w w' := by
  have hB : Below w.heap.size w ((w.alloc (.cells #[.int .i64 x0, .int .i64 y0, .int .i64 x1, .int .i64 y1, .int .i64 s, .slice A zs.length c, .slice B ps.length k] 27)).alloc (.cells #[.int .i64 a0, .int .i64 b0, .int .i64 a1, .int .i64 b1] 23)) := ((Below.refl _ _).alloc (Nat.le_refl _) _).alloc (by simp) _
  have D0 : ((w.alloc (.cells #[.int .i64 x0, .int .i64 y0, .int .i64 x1, .int .i64 y1, .int .i64 s, .slice A zs.length c, .slice B ps.length k] 27)).alloc (.cells #[.int .i64 a0, .int .i64 b0, .int .i64 a1, .int .i64 b1] 23)).cell? ⟨w.heap.size, 0, none⟩ = some (.int .i64 x0) := by first | (simp; done) | go_simp
  have D1 : ((w.alloc (.cells #[.int .i64 x0, .int .i64 y0, .int .i64 x1, .int .i64 y1, .int .i64 s, .slice A zs.length c, .slice B ps.length k] 27)).alloc (.cells #[.int .i64 a0, .int .i64 b0, .int .i64 a1, .int .i64 b1] 23)).cell? ⟨w.heap.size, 1, none⟩ = some (.int .i64 y0) := by first | (simp; done) | go_simp
  have D2 : ((w.alloc (.cells #[.int .i64 x0, .int .i64 y0, .int .i64 x1, .int .i64 y1, .int .i64 s, .slice A zs.length c, .slice B ps.length k] 27)).alloc (.cells #[.int .i64 a0, .int .i64 b0, .int .i64 a1, .int .i64 b1] 23)).cell? ⟨w.heap.size, 2, none⟩ = some (.int .i64 x1) := by first | (simp; done) | go_simp
  have D3 : ((w.alloc (.cells #[.int .i64 x0, .int .i64 y0, .int .i64 x1, .int .i64 y1, .int .i64 s, .slice A zs.length c, .slice B ps.length k] 27)).alloc (.cells #[.int .i64 a0, .int .i64 b0, .int .i64 a1, .int .i64 b1] 23)).cell? ⟨w.heap.size, 3, none⟩ = some (.int .i64 y1) := by first | (simp; done) | go_simp
  have D4 : ((w.alloc (.cells #[.int .i64 x0, .int .i64 y0, .int .i64 x1, .int .i64 y1, .int .i64 s, .slice A zs.length c, .slice B ps.length k] 27)).alloc (.cells #[.int .i64 a0, .int .i64 b0, .int .i64 a1, .int .i64 b1] 23)).cell? ⟨w.heap.size, 4, none⟩ = some (.int .i64 s) := by first | (simp; done) | go_simp
  have D5 : ((w.alloc (.cells #[.int .i64 x0, .int .i64 y0, .int .i64 x1, .int .i64 y1, .int .i64 s, .slice A zs.length c, .slice B ps.length k] 27)).alloc (.cells #[.int .i64 a0, .int .i64 b0, .int .i64 a1, .int .i64 b1] 23)).cell? ⟨w.heap.size, 5, none⟩ = some (.slice A zs.length c) := by first | (simp; done) | go_simp
  have D6 : ((w.alloc (.cells #[.int .i64 x0, .int .i64 y0, .int .i64 x1, .int .i64 y1, .int .i64 s, .slice A zs.length c, .slice B ps.length k] 27)).alloc (.cells #[.int .i64 a0, .int .i64 b0, .int .i64 a1, .int .i64 b1] 23)).cell? ⟨w.heap.size, 6, none⟩ = some (.slice B ps.length k) := by first | (simp; done) | go_simp
  have R0 : ((w.alloc (.cells #[.int .i64 x0, .int .i64 y0, .int .i64 x1, .int .i64 y1, .int .i64 s, .slice A zs.length c, .slice B ps.length k] 27)).alloc (.cells #[.int .i64 a0, .int .i64 b0, .int .i64 a1, .int .i64 b1] 23)).cell? ⟨w.heap.size + 1, 0, none⟩ = some (.int .i64 a0) := by first | (simp; done) | go_simp
  have R1 : ((w.alloc (.cells #[.int .i64 x0, .int .i64 y0, .int .i64 x1, .int .i64 y1, .int .i64 s, .slice A zs.length c, .slice B ps.length k] 27)).alloc (.cells #[.int .i64 a0, .int .i64 b0, .int .i64 a1, .int .i64 b1] 23)).cell? ⟨w.heap.size + 1, 1, none⟩ = some (.int .i64 b0) := by first | (simp; done) | go_simp
  have R2 : ((w.alloc (.cells #[.int .i64 x0, .int .i64 y0, .int .i64 x1, .int .i64 y1, .int .i64 s, .slice A zs.length c, .slice B ps.length k] 27)).alloc (.cells #[.int .i64 a0, .int .i64 b0, .int .i64 a1, .int .i64 b1] 23)).cell? ⟨w.heap.size + 1, 2, none⟩ = some (.int .i64 a1) := by first | (simp; done) | go_simp
  have R3 : ((w.alloc (.cells #[.int .i64 x0, .int .i64 y0, .int .i64 x1, .int .i64 y1, .int .i64 s, .slice A zs.length c, .slice B ps.length k] 27)).alloc (.cells #[.int .i64 a0, .int .i64 b0, .int .i64 a1, .int .i64 b1] 23)).cell? ⟨w.heap.size + 1, 3, none⟩ = some (.int .i64 b1) := by first | (simp; done) | go_simp
  have tok1 : True := trivial
  go_enter Try.func14, Try.ntmps14
  go_wp2_with fail
  generalize (w.alloc (.cells #[.int .i64 x0, .int .i64 y0, .int .i64 x1, .int .i64 y1, .int .i64 s, .slice A zs.length c, .slice B ps.length k] 27)).alloc (.cells #[.int .i64 a0, .int .i64 b0, .int .i64 a1, .int .i64 b1] 23) = W0 at *
  generalize w.heap.size + 1 = br at *
  go_upto_region 1 with fail
  have P0 : Below W0.heap.size W0 W0.drew := (Below.refl _ _).drew
  have P0a : Below W0.heap.size W0 (W0.alloc (.cells #[.int .i64 0, .int .i64 0, .int .i64 0, .int .i64 0] 33)).drew := ((Below.refl _ _).alloc (Nat.le_refl _) _).drew
  have toS : ∀ W' : World, Below W0.heap.size W0 W' → (W'.cell? ⟨w.heap.size, 0, none⟩ = some (.int .i64 x0) ∧ W'.cell? ⟨w.heap.size, 1, none⟩ = some (.int .i64 y0) ∧ W'.cell? ⟨w.heap.size, 2, none⟩ = some (.int .i64 x1) ∧ W'.cell? ⟨w.heap.size, 3, none⟩ = some (.int .i64 y1) ∧ W'.cell? ⟨br, 0, none⟩ = some (.int .i64 a0) ∧ W'.cell? ⟨br, 1, none⟩ = some (.int .i64 b0) ∧ W'.cell? ⟨br, 2, none⟩ = some (.int .i64 a1) ∧ W'.cell? ⟨br, 3, none⟩ = some (.int .i64 b1)) := fun W' h => ⟨cell_kept D0 h, cell_kept D1 h, cell_kept D2 h, cell_kept D3 h, cell_kept R0 h, cell_kept R1 h, cell_kept R2 h, cell_kept R3 h⟩
  have TOS := Lib.hid toS
  clear toS
  go_cut [11, 12] (fun pp qq wx => ∃ bc : Nat, pp = .pointer (some ⟨bc, 0, none⟩) ∧ qq = .bool cb ∧ W0.heap.size ≤ bc ∧ bc < wx.heap.size ∧ Below W0.heap.size W0 wx ∧ wx.cell? ⟨bc, 0, none⟩ = some (.int .i64 C0) ∧ wx.cell? ⟨bc, 1, none⟩ = some (.int .i64 C1) ∧ wx.cell? ⟨bc, 2, none⟩ = some (.int .i64 C2) ∧ wx.cell? ⟨bc, 3, none⟩ = some (.int .i64 C3))
  case first =>
    go_region_held3 (fun w' => w'.cell? ⟨w.heap.size, 0, none⟩ = some (.int .i64 x0) ∧ w'.cell? ⟨w.heap.size, 1, none⟩ = some (.int .i64 y0) ∧ w'.cell? ⟨w.heap.size, 2, none⟩ = some (.int .i64 x1) ∧ w'.cell? ⟨w.heap.size, 3, none⟩ = some (.int .i64 y1) ∧ w'.cell? ⟨br, 0, none⟩ = some (.int .i64 a0) ∧ w'.cell? ⟨br, 1, none⟩ = some (.int .i64 b0) ∧ w'.cell? ⟨br, 2, none⟩ = some (.int .i64 a1) ∧ w'.cell? ⟨br, 3, none⟩ = some (.int .i64 b1))
      ((refine TOS.out _ ?_; first | with_reducible exact P0 | with_reducible exact P0a | with_reducible exact P1 | with_reducible exact P1.alloc P1.size _ | with_reducible exact P2 | with_reducible exact P2.alloc P2.size _ | with_reducible exact P3 | with_reducible exact P3.alloc P3.size _ | with_reducible exact ((((P3.setCell (Nat.le_refl _) _).setCell (Nat.le_refl _) _).setCell (Nat.le_refl _) _).setCell (Nat.le_refl _) _) | with_reducible exact ((((P3.setCell P1.size _).setCell P1.size _).setCell P1.size _).setCell P1.size _) | with_reducible exact ((((P3.setCell P2.size _).setCell P2.size _).setCell P2.size _).setCell P2.size _)))
      (first | (go_at_call 20; have _t := tok1; refine (box_any x0 y0 x1 y1 _).mono ?_; rintro e u1 ⟨rfl, hv1⟩; clear tok1; (first | (have P1 : Below W0.heap.size W0 u1 := P0.trans (hv1.mono P0.size); skip) | (have P1 : Below W0.heap.size W0 u1 := P0a.trans (hv1.mono P0a.size); have zc0 : u1.cell? ⟨W0.heap.size, 0, none⟩ = some (.int .i64 0) := ((bcell hv1).1 _ 0 (by simp)).trans (by simp); have zf0 : u1.frozen? ⟨W0.heap.size, 0, none⟩ = false := ((bcell hv1).2 _ 0 (by simp)).trans (by simp); have zc1 : u1.cell? ⟨W0.heap.size, 1, none⟩ = some (.int .i64 0) := ((bcell hv1).1 _ 1 (by simp)).trans (by simp); have zf1 : u1.frozen? ⟨W0.heap.size, 1, none⟩ = false := ((bcell hv1).2 _ 1 (by simp)).trans (by simp); have zc2 : u1.cell? ⟨W0.heap.size, 2, none⟩ = some (.int .i64 0) := ((bcell hv1).1 _ 2 (by simp)).trans (by simp); have zf2 : u1.frozen? ⟨W0.heap.size, 2, none⟩ = false := ((bcell hv1).2 _ 2 (by simp)).trans (by simp); have zc3 : u1.cell? ⟨W0.heap.size, 3, none⟩ = some (.int .i64 0) := ((bcell hv1).1 _ 3 (by simp)).trans (by simp); have zf3 : u1.frozen? ⟨W0.heap.size, 3, none⟩ = false := ((bcell hv1).2 _ 3 (by simp)).trans (by simp)))) | (go_at_call 20; refine (box_any a0 b0 a1 b1 _).mono ?_; rintro e u2 ⟨rfl, hv2⟩; (first | (have P2 : Below W0.heap.size W0 u2 := P1.trans (hv2.mono P1.size); (try (replace zf0 := frozenK zc0 zf0 hv2; replace zc0 := cell_kept zc0 hv2; replace zf1 := frozenK zc1 zf1 hv2; replace zc1 := cell_kept zc1 hv2; replace zf2 := frozenK zc2 zf2 hv2; replace zc2 := cell_kept zc2 hv2; replace zf3 := frozenK zc3 zf3 hv2; replace zc3 := cell_kept zc3 hv2))) | (have P2 : Below W0.heap.size W0 u2 := (P1.alloc P1.size (.cells #[.int .i64 0, .int .i64 0, .int .i64 0, .int .i64 0] 33)).trans (hv2.mono (P1.alloc P1.size (.cells #[.int .i64 0, .int .i64 0, .int .i64 0, .int .i64 0] 33)).size); have zc0 : u2.cell? ⟨u1.heap.size, 0, none⟩ = some (.int .i64 0) := ((bcell hv2).1 _ 0 (by simp)).trans (by simp); have zf0 : u2.frozen? ⟨u1.heap.size, 0, none⟩ = false := ((bcell hv2).2 _ 0 (by simp)).trans (by simp); have zc1 : u2.cell? ⟨u1.heap.size, 1, none⟩ = some (.int .i64 0) := ((bcell hv2).1 _ 1 (by simp)).trans (by simp); have zf1 : u2.frozen? ⟨u1.heap.size, 1, none⟩ = false := ((bcell hv2).2 _ 1 (by simp)).trans (by simp); have zc2 : u2.cell? ⟨u1.heap.size, 2, none⟩ = some (.int .i64 0) := ((bcell hv2).1 _ 2 (by simp)).trans (by simp); have zf2 : u2.frozen? ⟨u1.heap.size, 2, none⟩ = false := ((bcell hv2).2 _ 2 (by simp)).trans (by simp); have zc3 : u2.cell? ⟨u1.heap.size, 3, none⟩ = some (.int .i64 0) := ((bcell hv2).1 _ 3 (by simp)).trans (by simp); have zf3 : u2.frozen? ⟨u1.heap.size, 3, none⟩ = false := ((bcell hv2).2 _ 3 (by simp)).trans (by simp)))) | (go_at_call 35; refine (common_any x0 y0 x1 y1 a0 b0 a1 b1 C0 C1 C2 C3 cb hC.out _).mono ?_; rintro e u3 ⟨rfl, hv3⟩; (first | (have P3 : Below W0.heap.size W0 u3 := P2.trans (hv3.mono P2.size); (try (replace zf0 := frozenK zc0 zf0 hv3; replace zc0 := cell_kept zc0 hv3; replace zf1 := frozenK zc1 zf1 hv3; replace zc1 := cell_kept zc1 hv3; replace zf2 := frozenK zc2 zf2 hv3; replace zc2 := cell_kept zc2 hv3; replace zf3 := frozenK zc3 zf3 hv3; replace zc3 := cell_kept zc3 hv3))) | (have P3 : Below W0.heap.size W0 u3 := (P2.alloc P2.size (.cells #[.int .i64 0, .int .i64 0, .int .i64 0, .int .i64 0] 33)).trans (hv3.mono (P2.alloc P2.size (.cells #[.int .i64 0, .int .i64 0, .int .i64 0, .int .i64 0] 33)).size); have zc0 : u3.cell? ⟨u2.heap.size, 0, none⟩ = some (.int .i64 0) := ((bcell hv3).1 _ 0 (by simp)).trans (by simp); have zf0 : u3.frozen? ⟨u2.heap.size, 0, none⟩ = false := ((bcell hv3).2 _ 0 (by simp)).trans (by simp); have zc1 : u3.cell? ⟨u2.heap.size, 1, none⟩ = some (.int .i64 0) := ((bcell hv3).1 _ 1 (by simp)).trans (by simp); have zf1 : u3.frozen? ⟨u2.heap.size, 1, none⟩ = false := ((bcell hv3).2 _ 1 (by simp)).trans (by simp); have zc2 : u3.cell? ⟨u2.heap.size, 2, none⟩ = some (.int .i64 0) := ((bcell hv3).1 _ 2 (by simp)).trans (by simp); have zf2 : u3.frozen? ⟨u2.heap.size, 2, none⟩ = false := ((bcell hv3).2 _ 2 (by simp)).trans (by simp); have zc3 : u3.cell? ⟨u2.heap.size, 3, none⟩ = some (.int .i64 0) := ((bcell hv3).1 _ 3 (by simp)).trans (by simp); have zf3 : u3.frozen? ⟨u2.heap.size, 3, none⟩ = false := ((bcell hv3).2 _ 3 (by simp)).trans (by simp)))))
    all_goals
      go_wp2_with fail
      go_meet
      have z1 := P1.size
      have z2 := P2.size
      have z3 := P3.size
      have y2 := hv2.size
      have y3 := hv3.size
      first
        | exact ⟨u3.heap.size, rfl, rfl, P3.size, by simp, P3.alloc P3.size _, by simp, by simp, by simp, by simp⟩
        | exact ⟨W0.heap.size, rfl, rfl, Nat.le_refl _, lt_sets (World.block_lt_of_cell? _ _ zc0) (by simp [World.setCell]), ((((P3.setCell (Nat.le_refl _) _).setCell (Nat.le_refl _) _).setCell (Nat.le_refl _) _).setCell (Nat.le_refl _) _), by go_simp, by go_simp, by go_simp, by go_simp⟩
        | exact ⟨u1.heap.size, rfl, rfl, P1.size, lt_sets (World.block_lt_of_cell? _ _ zc0) (by simp [World.setCell]), ((((P3.setCell P1.size _).setCell P1.size _).setCell P1.size _).setCell P1.size _), by go_simp, by go_simp, by go_simp, by go_simp⟩
        | exact ⟨u2.heap.size, rfl, rfl, P2.size, lt_sets (World.block_lt_of_cell? _ _ zc0) (by simp [World.setCell]), ((((P3.setCell P2.size _).setCell P2.size _).setCell P2.size _).setCell P2.size _), by go_simp, by go_simp, by go_simp, by go_simp⟩
  case rest =>
    clear TOS P0 P0a
    obtain ⟨bc, rfl, rfl, hbc, hbl, hBm, cc0, cc1, cc2, cc3⟩ := hcut
    replace D0 := cell_kept D0 hBm
    replace D1 := cell_kept D1 hBm
    replace D2 := cell_kept D2 hBm
    replace D3 := cell_kept D3 hBm
    replace D4 := cell_kept D4 hBm
    replace D5 := cell_kept D5 hBm
    replace D6 := cell_kept D6 hBm
    replace R0 := cell_kept R0 hBm
    replace R1 := cell_kept R1 hBm
    replace R2 := cell_kept R2 hBm
    replace R3 := cell_kept R3 hBm
    replace hB := hB.trans (hBm.mono hB.size)
    clear hBm hbc
    go_wp2_with fail
    refine (fitsK_any x0 y0 x1 y1 s A c zs B k ps true (by simp [hF.out]) _).mono ?_
    rintro e w1 ⟨rfl, hb1⟩
    replace D0 := cell_kept D0 hb1
    replace D1 := cell_kept D1 hb1
    replace D2 := cell_kept D2 hb1
    replace D3 := cell_kept D3 hb1
    replace D4 := cell_kept D4 hb1
    replace D5 := cell_kept D5 hb1
    replace D6 := cell_kept D6 hb1
    replace R0 := cell_kept R0 hb1
    replace R1 := cell_kept R1 hb1
    replace R2 := cell_kept R2 hb1
    replace R3 := cell_kept R3 hb1
    replace cc0 := cell_kept cc0 hb1
    replace cc1 := cell_kept cc1 hb1
    replace cc2 := cell_kept cc2 hb1
    replace cc3 := cell_kept cc3 hb1
    replace hB := hB.trans (hb1.mono hB.size)
    clear hb1
    go_wp2_with fail
    refine (box_any a0 b0 a1 b1 _).mono ?_
    rintro e w2 ⟨rfl, hb2⟩
    replace D0 := cell_kept D0 hb2
    replace D1 := cell_kept D1 hb2
    replace D2 := cell_kept D2 hb2
    replace D3 := cell_kept D3 hb2
    replace D4 := cell_kept D4 hb2
    replace D5 := cell_kept D5 hb2
    replace D6 := cell_kept D6 hb2
    replace R0 := cell_kept R0 hb2
    replace R1 := cell_kept R1 hb2
    replace R2 := cell_kept R2 hb2
    replace R3 := cell_kept R3 hb2
    replace cc0 := cell_kept cc0 hb2
    replace cc1 := cell_kept cc1 hb2
    replace cc2 := cell_kept cc2 hb2
    replace cc3 := cell_kept cc3 hb2
    replace hB := hB.trans (hb2.mono hB.size)
    clear hb2
    go_wp2_with fail
    refine (near4_any a0 b0 a1 b1 false (by simp [hN.out]) _).mono ?_
    rintro e w3 ⟨rfl, hb3⟩
    replace D0 := cell_kept D0 hb3
    replace D1 := cell_kept D1 hb3
    replace D2 := cell_kept D2 hb3
    replace D3 := cell_kept D3 hb3
    replace D4 := cell_kept D4 hb3
    replace D5 := cell_kept D5 hb3
    replace D6 := cell_kept D6 hb3
    replace R0 := cell_kept R0 hb3
    replace R1 := cell_kept R1 hb3
    replace R2 := cell_kept R2 hb3
    replace R3 := cell_kept R3 hb3
    replace cc0 := cell_kept cc0 hb3
    replace cc1 := cell_kept cc1 hb3
    replace cc2 := cell_kept cc2 hb3
    replace cc3 := cell_kept cc3 hb3
    replace hB := hB.trans (hb3.mono hB.size)
    clear hb3
    go_wp2
    go_ret
    exact ⟨by simp, hB⟩

set_option maxRecDepth 100000 in
set_option maxHeartbeats 8000000 in
theorem sh_none (x0 y0 x1 y1 s : Int) (A : Option Addr) (c : Nat) (zs : List Int) (B : Option Addr) (k : Nat) (ps : List (Int × Int × Int × Int)) (a0 b0 a1 b1 x y v : Int) (w : World) (hr : Hid (Reads w A zs)) (hy : Hid (Bytes zs)) (hl : Small zs) (hn : Hid (A = none → c = 0)) (pr : Hid (PReads w B ps)) (pl : (ps.length : Int) ≤ 2097152) (t0 : 0 ≤ v) (t1 : v ≤ 255) (C0 C1 C2 C3 : Int) (cb : Bool) (hC : Hid (ComOf x0 y0 x1 y1 a0 b0 a1 b1 C0 C1 C2 C3 cb)) (hF : Hid (Fits x0 y0 x1 y1 s 1 zs.length)) (hN : Hid (Near4 a0 b0 a1 b1)) (hcb : cb = false) :
    Calls Try.prog 14 #[.agg #[.int .i64 x0, .int .i64 y0, .int .i64 x1, .int .i64 y1, .int .i64 s, .slice A zs.length c, .slice B ps.length k], .agg #[.int .i64 a0, .int .i64 b0, .int .i64 a1, .int .i64 b1], .int .i64 x, .int .i64 y, .int .u8 v] w fun e w' => e = .returned (.bool true) ∧ Below w.heap.size w w' := by
  subst hcb
  have hB : Below w.heap.size w ((w.alloc (.cells #[.int .i64 x0, .int .i64 y0, .int .i64 x1, .int .i64 y1, .int .i64 s, .slice A zs.length c, .slice B ps.length k] 27)).alloc (.cells #[.int .i64 a0, .int .i64 b0, .int .i64 a1, .int .i64 b1] 23)) := ((Below.refl _ _).alloc (Nat.le_refl _) _).alloc (by simp) _
  have D0 : ((w.alloc (.cells #[.int .i64 x0, .int .i64 y0, .int .i64 x1, .int .i64 y1, .int .i64 s, .slice A zs.length c, .slice B ps.length k] 27)).alloc (.cells #[.int .i64 a0, .int .i64 b0, .int .i64 a1, .int .i64 b1] 23)).cell? ⟨w.heap.size, 0, none⟩ = some (.int .i64 x0) := by first | (simp; done) | go_simp
  have D1 : ((w.alloc (.cells #[.int .i64 x0, .int .i64 y0, .int .i64 x1, .int .i64 y1, .int .i64 s, .slice A zs.length c, .slice B ps.length k] 27)).alloc (.cells #[.int .i64 a0, .int .i64 b0, .int .i64 a1, .int .i64 b1] 23)).cell? ⟨w.heap.size, 1, none⟩ = some (.int .i64 y0) := by first | (simp; done) | go_simp
  have D2 : ((w.alloc (.cells #[.int .i64 x0, .int .i64 y0, .int .i64 x1, .int .i64 y1, .int .i64 s, .slice A zs.length c, .slice B ps.length k] 27)).alloc (.cells #[.int .i64 a0, .int .i64 b0, .int .i64 a1, .int .i64 b1] 23)).cell? ⟨w.heap.size, 2, none⟩ = some (.int .i64 x1) := by first | (simp; done) | go_simp
  have D3 : ((w.alloc (.cells #[.int .i64 x0, .int .i64 y0, .int .i64 x1, .int .i64 y1, .int .i64 s, .slice A zs.length c, .slice B ps.length k] 27)).alloc (.cells #[.int .i64 a0, .int .i64 b0, .int .i64 a1, .int .i64 b1] 23)).cell? ⟨w.heap.size, 3, none⟩ = some (.int .i64 y1) := by first | (simp; done) | go_simp
  have D4 : ((w.alloc (.cells #[.int .i64 x0, .int .i64 y0, .int .i64 x1, .int .i64 y1, .int .i64 s, .slice A zs.length c, .slice B ps.length k] 27)).alloc (.cells #[.int .i64 a0, .int .i64 b0, .int .i64 a1, .int .i64 b1] 23)).cell? ⟨w.heap.size, 4, none⟩ = some (.int .i64 s) := by first | (simp; done) | go_simp
  have D5 : ((w.alloc (.cells #[.int .i64 x0, .int .i64 y0, .int .i64 x1, .int .i64 y1, .int .i64 s, .slice A zs.length c, .slice B ps.length k] 27)).alloc (.cells #[.int .i64 a0, .int .i64 b0, .int .i64 a1, .int .i64 b1] 23)).cell? ⟨w.heap.size, 5, none⟩ = some (.slice A zs.length c) := by first | (simp; done) | go_simp
  have D6 : ((w.alloc (.cells #[.int .i64 x0, .int .i64 y0, .int .i64 x1, .int .i64 y1, .int .i64 s, .slice A zs.length c, .slice B ps.length k] 27)).alloc (.cells #[.int .i64 a0, .int .i64 b0, .int .i64 a1, .int .i64 b1] 23)).cell? ⟨w.heap.size, 6, none⟩ = some (.slice B ps.length k) := by first | (simp; done) | go_simp
  have R0 : ((w.alloc (.cells #[.int .i64 x0, .int .i64 y0, .int .i64 x1, .int .i64 y1, .int .i64 s, .slice A zs.length c, .slice B ps.length k] 27)).alloc (.cells #[.int .i64 a0, .int .i64 b0, .int .i64 a1, .int .i64 b1] 23)).cell? ⟨w.heap.size + 1, 0, none⟩ = some (.int .i64 a0) := by first | (simp; done) | go_simp
  have R1 : ((w.alloc (.cells #[.int .i64 x0, .int .i64 y0, .int .i64 x1, .int .i64 y1, .int .i64 s, .slice A zs.length c, .slice B ps.length k] 27)).alloc (.cells #[.int .i64 a0, .int .i64 b0, .int .i64 a1, .int .i64 b1] 23)).cell? ⟨w.heap.size + 1, 1, none⟩ = some (.int .i64 b0) := by first | (simp; done) | go_simp
  have R2 : ((w.alloc (.cells #[.int .i64 x0, .int .i64 y0, .int .i64 x1, .int .i64 y1, .int .i64 s, .slice A zs.length c, .slice B ps.length k] 27)).alloc (.cells #[.int .i64 a0, .int .i64 b0, .int .i64 a1, .int .i64 b1] 23)).cell? ⟨w.heap.size + 1, 2, none⟩ = some (.int .i64 a1) := by first | (simp; done) | go_simp
  have R3 : ((w.alloc (.cells #[.int .i64 x0, .int .i64 y0, .int .i64 x1, .int .i64 y1, .int .i64 s, .slice A zs.length c, .slice B ps.length k] 27)).alloc (.cells #[.int .i64 a0, .int .i64 b0, .int .i64 a1, .int .i64 b1] 23)).cell? ⟨w.heap.size + 1, 3, none⟩ = some (.int .i64 b1) := by first | (simp; done) | go_simp
  have tok1 : True := trivial
  go_enter Try.func14, Try.ntmps14
  go_wp2_with fail
  generalize (w.alloc (.cells #[.int .i64 x0, .int .i64 y0, .int .i64 x1, .int .i64 y1, .int .i64 s, .slice A zs.length c, .slice B ps.length k] 27)).alloc (.cells #[.int .i64 a0, .int .i64 b0, .int .i64 a1, .int .i64 b1] 23) = W0 at *
  generalize w.heap.size + 1 = br at *
  go_upto_region 1 with fail
  have P0 : Below W0.heap.size W0 W0.drew := (Below.refl _ _).drew
  have P0a : Below W0.heap.size W0 (W0.alloc (.cells #[.int .i64 0, .int .i64 0, .int .i64 0, .int .i64 0] 33)).drew := ((Below.refl _ _).alloc (Nat.le_refl _) _).drew
  have toS : ∀ W' : World, Below W0.heap.size W0 W' → (W'.cell? ⟨w.heap.size, 0, none⟩ = some (.int .i64 x0) ∧ W'.cell? ⟨w.heap.size, 1, none⟩ = some (.int .i64 y0) ∧ W'.cell? ⟨w.heap.size, 2, none⟩ = some (.int .i64 x1) ∧ W'.cell? ⟨w.heap.size, 3, none⟩ = some (.int .i64 y1) ∧ W'.cell? ⟨br, 0, none⟩ = some (.int .i64 a0) ∧ W'.cell? ⟨br, 1, none⟩ = some (.int .i64 b0) ∧ W'.cell? ⟨br, 2, none⟩ = some (.int .i64 a1) ∧ W'.cell? ⟨br, 3, none⟩ = some (.int .i64 b1)) := fun W' h => ⟨cell_kept D0 h, cell_kept D1 h, cell_kept D2 h, cell_kept D3 h, cell_kept R0 h, cell_kept R1 h, cell_kept R2 h, cell_kept R3 h⟩
  have TOS := Lib.hid toS
  clear toS
  go_cut [11, 12] (fun pp qq wx => ∃ bc : Nat, pp = .pointer (some ⟨bc, 0, none⟩) ∧ qq = .bool false ∧ W0.heap.size ≤ bc ∧ bc < wx.heap.size ∧ Below W0.heap.size W0 wx ∧ wx.cell? ⟨bc, 0, none⟩ = some (.int .i64 C0) ∧ wx.cell? ⟨bc, 1, none⟩ = some (.int .i64 C1) ∧ wx.cell? ⟨bc, 2, none⟩ = some (.int .i64 C2) ∧ wx.cell? ⟨bc, 3, none⟩ = some (.int .i64 C3))
  case first =>
    go_region_held3 (fun w' => w'.cell? ⟨w.heap.size, 0, none⟩ = some (.int .i64 x0) ∧ w'.cell? ⟨w.heap.size, 1, none⟩ = some (.int .i64 y0) ∧ w'.cell? ⟨w.heap.size, 2, none⟩ = some (.int .i64 x1) ∧ w'.cell? ⟨w.heap.size, 3, none⟩ = some (.int .i64 y1) ∧ w'.cell? ⟨br, 0, none⟩ = some (.int .i64 a0) ∧ w'.cell? ⟨br, 1, none⟩ = some (.int .i64 b0) ∧ w'.cell? ⟨br, 2, none⟩ = some (.int .i64 a1) ∧ w'.cell? ⟨br, 3, none⟩ = some (.int .i64 b1))
      ((refine TOS.out _ ?_; first | with_reducible exact P0 | with_reducible exact P0a | with_reducible exact P1 | with_reducible exact P1.alloc P1.size _ | with_reducible exact P2 | with_reducible exact P2.alloc P2.size _ | with_reducible exact P3 | with_reducible exact P3.alloc P3.size _ | with_reducible exact ((((P3.setCell (Nat.le_refl _) _).setCell (Nat.le_refl _) _).setCell (Nat.le_refl _) _).setCell (Nat.le_refl _) _) | with_reducible exact ((((P3.setCell P1.size _).setCell P1.size _).setCell P1.size _).setCell P1.size _) | with_reducible exact ((((P3.setCell P2.size _).setCell P2.size _).setCell P2.size _).setCell P2.size _)))
      (first | (go_at_call 20; have _t := tok1; refine (box_any x0 y0 x1 y1 _).mono ?_; rintro e u1 ⟨rfl, hv1⟩; clear tok1; (first | (have P1 : Below W0.heap.size W0 u1 := P0.trans (hv1.mono P0.size); skip) | (have P1 : Below W0.heap.size W0 u1 := P0a.trans (hv1.mono P0a.size); have zc0 : u1.cell? ⟨W0.heap.size, 0, none⟩ = some (.int .i64 0) := ((bcell hv1).1 _ 0 (by simp)).trans (by simp); have zf0 : u1.frozen? ⟨W0.heap.size, 0, none⟩ = false := ((bcell hv1).2 _ 0 (by simp)).trans (by simp); have zc1 : u1.cell? ⟨W0.heap.size, 1, none⟩ = some (.int .i64 0) := ((bcell hv1).1 _ 1 (by simp)).trans (by simp); have zf1 : u1.frozen? ⟨W0.heap.size, 1, none⟩ = false := ((bcell hv1).2 _ 1 (by simp)).trans (by simp); have zc2 : u1.cell? ⟨W0.heap.size, 2, none⟩ = some (.int .i64 0) := ((bcell hv1).1 _ 2 (by simp)).trans (by simp); have zf2 : u1.frozen? ⟨W0.heap.size, 2, none⟩ = false := ((bcell hv1).2 _ 2 (by simp)).trans (by simp); have zc3 : u1.cell? ⟨W0.heap.size, 3, none⟩ = some (.int .i64 0) := ((bcell hv1).1 _ 3 (by simp)).trans (by simp); have zf3 : u1.frozen? ⟨W0.heap.size, 3, none⟩ = false := ((bcell hv1).2 _ 3 (by simp)).trans (by simp)))) | (go_at_call 20; refine (box_any a0 b0 a1 b1 _).mono ?_; rintro e u2 ⟨rfl, hv2⟩; (first | (have P2 : Below W0.heap.size W0 u2 := P1.trans (hv2.mono P1.size); (try (replace zf0 := frozenK zc0 zf0 hv2; replace zc0 := cell_kept zc0 hv2; replace zf1 := frozenK zc1 zf1 hv2; replace zc1 := cell_kept zc1 hv2; replace zf2 := frozenK zc2 zf2 hv2; replace zc2 := cell_kept zc2 hv2; replace zf3 := frozenK zc3 zf3 hv2; replace zc3 := cell_kept zc3 hv2))) | (have P2 : Below W0.heap.size W0 u2 := (P1.alloc P1.size (.cells #[.int .i64 0, .int .i64 0, .int .i64 0, .int .i64 0] 33)).trans (hv2.mono (P1.alloc P1.size (.cells #[.int .i64 0, .int .i64 0, .int .i64 0, .int .i64 0] 33)).size); have zc0 : u2.cell? ⟨u1.heap.size, 0, none⟩ = some (.int .i64 0) := ((bcell hv2).1 _ 0 (by simp)).trans (by simp); have zf0 : u2.frozen? ⟨u1.heap.size, 0, none⟩ = false := ((bcell hv2).2 _ 0 (by simp)).trans (by simp); have zc1 : u2.cell? ⟨u1.heap.size, 1, none⟩ = some (.int .i64 0) := ((bcell hv2).1 _ 1 (by simp)).trans (by simp); have zf1 : u2.frozen? ⟨u1.heap.size, 1, none⟩ = false := ((bcell hv2).2 _ 1 (by simp)).trans (by simp); have zc2 : u2.cell? ⟨u1.heap.size, 2, none⟩ = some (.int .i64 0) := ((bcell hv2).1 _ 2 (by simp)).trans (by simp); have zf2 : u2.frozen? ⟨u1.heap.size, 2, none⟩ = false := ((bcell hv2).2 _ 2 (by simp)).trans (by simp); have zc3 : u2.cell? ⟨u1.heap.size, 3, none⟩ = some (.int .i64 0) := ((bcell hv2).1 _ 3 (by simp)).trans (by simp); have zf3 : u2.frozen? ⟨u1.heap.size, 3, none⟩ = false := ((bcell hv2).2 _ 3 (by simp)).trans (by simp)))) | (go_at_call 35; refine (common_any x0 y0 x1 y1 a0 b0 a1 b1 C0 C1 C2 C3 false hC.out _).mono ?_; rintro e u3 ⟨rfl, hv3⟩; (first | (have P3 : Below W0.heap.size W0 u3 := P2.trans (hv3.mono P2.size); (try (replace zf0 := frozenK zc0 zf0 hv3; replace zc0 := cell_kept zc0 hv3; replace zf1 := frozenK zc1 zf1 hv3; replace zc1 := cell_kept zc1 hv3; replace zf2 := frozenK zc2 zf2 hv3; replace zc2 := cell_kept zc2 hv3; replace zf3 := frozenK zc3 zf3 hv3; replace zc3 := cell_kept zc3 hv3))) | (have P3 : Below W0.heap.size W0 u3 := (P2.alloc P2.size (.cells #[.int .i64 0, .int .i64 0, .int .i64 0, .int .i64 0] 33)).trans (hv3.mono (P2.alloc P2.size (.cells #[.int .i64 0, .int .i64 0, .int .i64 0, .int .i64 0] 33)).size); have zc0 : u3.cell? ⟨u2.heap.size, 0, none⟩ = some (.int .i64 0) := ((bcell hv3).1 _ 0 (by simp)).trans (by simp); have zf0 : u3.frozen? ⟨u2.heap.size, 0, none⟩ = false := ((bcell hv3).2 _ 0 (by simp)).trans (by simp); have zc1 : u3.cell? ⟨u2.heap.size, 1, none⟩ = some (.int .i64 0) := ((bcell hv3).1 _ 1 (by simp)).trans (by simp); have zf1 : u3.frozen? ⟨u2.heap.size, 1, none⟩ = false := ((bcell hv3).2 _ 1 (by simp)).trans (by simp); have zc2 : u3.cell? ⟨u2.heap.size, 2, none⟩ = some (.int .i64 0) := ((bcell hv3).1 _ 2 (by simp)).trans (by simp); have zf2 : u3.frozen? ⟨u2.heap.size, 2, none⟩ = false := ((bcell hv3).2 _ 2 (by simp)).trans (by simp); have zc3 : u3.cell? ⟨u2.heap.size, 3, none⟩ = some (.int .i64 0) := ((bcell hv3).1 _ 3 (by simp)).trans (by simp); have zf3 : u3.frozen? ⟨u2.heap.size, 3, none⟩ = false := ((bcell hv3).2 _ 3 (by simp)).trans (by simp)))))
    all_goals
      go_wp2_with fail
      go_meet
      have z1 := P1.size
      have z2 := P2.size
      have z3 := P3.size
      have y2 := hv2.size
      have y3 := hv3.size
      first
        | exact ⟨u3.heap.size, rfl, rfl, P3.size, by simp, P3.alloc P3.size _, by simp, by simp, by simp, by simp⟩
        | exact ⟨W0.heap.size, rfl, rfl, Nat.le_refl _, lt_sets (World.block_lt_of_cell? _ _ zc0) (by simp [World.setCell]), ((((P3.setCell (Nat.le_refl _) _).setCell (Nat.le_refl _) _).setCell (Nat.le_refl _) _).setCell (Nat.le_refl _) _), by go_simp, by go_simp, by go_simp, by go_simp⟩
        | exact ⟨u1.heap.size, rfl, rfl, P1.size, lt_sets (World.block_lt_of_cell? _ _ zc0) (by simp [World.setCell]), ((((P3.setCell P1.size _).setCell P1.size _).setCell P1.size _).setCell P1.size _), by go_simp, by go_simp, by go_simp, by go_simp⟩
        | exact ⟨u2.heap.size, rfl, rfl, P2.size, lt_sets (World.block_lt_of_cell? _ _ zc0) (by simp [World.setCell]), ((((P3.setCell P2.size _).setCell P2.size _).setCell P2.size _).setCell P2.size _), by go_simp, by go_simp, by go_simp, by go_simp⟩
  case rest =>
    clear TOS P0 P0a
    obtain ⟨bc, rfl, rfl, hbc, hbl, hBm, cc0, cc1, cc2, cc3⟩ := hcut
    replace D0 := cell_kept D0 hBm
    replace D1 := cell_kept D1 hBm
    replace D2 := cell_kept D2 hBm
    replace D3 := cell_kept D3 hBm
    replace D4 := cell_kept D4 hBm
    replace D5 := cell_kept D5 hBm
    replace D6 := cell_kept D6 hBm
    replace R0 := cell_kept R0 hBm
    replace R1 := cell_kept R1 hBm
    replace R2 := cell_kept R2 hBm
    replace R3 := cell_kept R3 hBm
    replace hB := hB.trans (hBm.mono hB.size)
    clear hBm hbc
    go_wp2_with fail
    refine (fitsK_any x0 y0 x1 y1 s A c zs B k ps true (by simp [hF.out]) _).mono ?_
    rintro e w1 ⟨rfl, hb1⟩
    replace D0 := cell_kept D0 hb1
    replace D1 := cell_kept D1 hb1
    replace D2 := cell_kept D2 hb1
    replace D3 := cell_kept D3 hb1
    replace D4 := cell_kept D4 hb1
    replace D5 := cell_kept D5 hb1
    replace D6 := cell_kept D6 hb1
    replace R0 := cell_kept R0 hb1
    replace R1 := cell_kept R1 hb1
    replace R2 := cell_kept R2 hb1
    replace R3 := cell_kept R3 hb1
    replace cc0 := cell_kept cc0 hb1
    replace cc1 := cell_kept cc1 hb1
    replace cc2 := cell_kept cc2 hb1
    replace cc3 := cell_kept cc3 hb1
    replace hB := hB.trans (hb1.mono hB.size)
    clear hb1
    go_wp2_with fail
    refine (box_any a0 b0 a1 b1 _).mono ?_
    rintro e w2 ⟨rfl, hb2⟩
    replace D0 := cell_kept D0 hb2
    replace D1 := cell_kept D1 hb2
    replace D2 := cell_kept D2 hb2
    replace D3 := cell_kept D3 hb2
    replace D4 := cell_kept D4 hb2
    replace D5 := cell_kept D5 hb2
    replace D6 := cell_kept D6 hb2
    replace R0 := cell_kept R0 hb2
    replace R1 := cell_kept R1 hb2
    replace R2 := cell_kept R2 hb2
    replace R3 := cell_kept R3 hb2
    replace cc0 := cell_kept cc0 hb2
    replace cc1 := cell_kept cc1 hb2
    replace cc2 := cell_kept cc2 hb2
    replace cc3 := cell_kept cc3 hb2
    replace hB := hB.trans (hb2.mono hB.size)
    clear hb2
    go_wp2_with fail
    refine (near4_any a0 b0 a1 b1 true (by simp [hN.out]) _).mono ?_
    rintro e w3 ⟨rfl, hb3⟩
    replace D0 := cell_kept D0 hb3
    replace D1 := cell_kept D1 hb3
    replace D2 := cell_kept D2 hb3
    replace D3 := cell_kept D3 hb3
    replace D4 := cell_kept D4 hb3
    replace D5 := cell_kept D5 hb3
    replace D6 := cell_kept D6 hb3
    replace R0 := cell_kept R0 hb3
    replace R1 := cell_kept R1 hb3
    replace R2 := cell_kept R2 hb3
    replace R3 := cell_kept R3 hb3
    replace cc0 := cell_kept cc0 hb3
    replace cc1 := cell_kept cc1 hb3
    replace cc2 := cell_kept cc2 hb3
    replace cc3 := cell_kept cc3 hb3
    replace hB := hB.trans (hb3.mono hB.size)
    clear hb3
    go_wp2
    go_ret
    exact ⟨by simp, hB⟩

set_option maxRecDepth 100000 in
set_option maxHeartbeats 8000000 in
theorem sh_out (x0 y0 x1 y1 s : Int) (A : Option Addr) (c : Nat) (zs : List Int) (B : Option Addr) (k : Nat) (ps : List (Int × Int × Int × Int)) (a0 b0 a1 b1 x y v : Int) (w : World) (hr : Hid (Reads w A zs)) (hy : Hid (Bytes zs)) (hl : Small zs) (hn : Hid (A = none → c = 0)) (pr : Hid (PReads w B ps)) (pl : (ps.length : Int) ≤ 2097152) (t0 : 0 ≤ v) (t1 : v ≤ 255) (C0 C1 C2 C3 : Int) (cb : Bool) (hC : Hid (ComOf x0 y0 x1 y1 a0 b0 a1 b1 C0 C1 C2 C3 cb)) (hF : Hid (Fits x0 y0 x1 y1 s 1 zs.length)) (hN : Hid (Near4 a0 b0 a1 b1)) (hcb : cb = true) (hI : Hid (¬ Insd C0 C1 C2 C3 x y)) :
    Calls Try.prog 14 #[.agg #[.int .i64 x0, .int .i64 y0, .int .i64 x1, .int .i64 y1, .int .i64 s, .slice A zs.length c, .slice B ps.length k], .agg #[.int .i64 a0, .int .i64 b0, .int .i64 a1, .int .i64 b1], .int .i64 x, .int .i64 y, .int .u8 v] w fun e w' => e = .returned (.bool true) ∧ Below w.heap.size w w' := by
  subst hcb
  have hB : Below w.heap.size w ((w.alloc (.cells #[.int .i64 x0, .int .i64 y0, .int .i64 x1, .int .i64 y1, .int .i64 s, .slice A zs.length c, .slice B ps.length k] 27)).alloc (.cells #[.int .i64 a0, .int .i64 b0, .int .i64 a1, .int .i64 b1] 23)) := ((Below.refl _ _).alloc (Nat.le_refl _) _).alloc (by simp) _
  have D0 : ((w.alloc (.cells #[.int .i64 x0, .int .i64 y0, .int .i64 x1, .int .i64 y1, .int .i64 s, .slice A zs.length c, .slice B ps.length k] 27)).alloc (.cells #[.int .i64 a0, .int .i64 b0, .int .i64 a1, .int .i64 b1] 23)).cell? ⟨w.heap.size, 0, none⟩ = some (.int .i64 x0) := by first | (simp; done) | go_simp
  have D1 : ((w.alloc (.cells #[.int .i64 x0, .int .i64 y0, .int .i64 x1, .int .i64 y1, .int .i64 s, .slice A zs.length c, .slice B ps.length k] 27)).alloc (.cells #[.int .i64 a0, .int .i64 b0, .int .i64 a1, .int .i64 b1] 23)).cell? ⟨w.heap.size, 1, none⟩ = some (.int .i64 y0) := by first | (simp; done) | go_simp
  have D2 : ((w.alloc (.cells #[.int .i64 x0, .int .i64 y0, .int .i64 x1, .int .i64 y1, .int .i64 s, .slice A zs.length c, .slice B ps.length k] 27)).alloc (.cells #[.int .i64 a0, .int .i64 b0, .int .i64 a1, .int .i64 b1] 23)).cell? ⟨w.heap.size, 2, none⟩ = some (.int .i64 x1) := by first | (simp; done) | go_simp
  have D3 : ((w.alloc (.cells #[.int .i64 x0, .int .i64 y0, .int .i64 x1, .int .i64 y1, .int .i64 s, .slice A zs.length c, .slice B ps.length k] 27)).alloc (.cells #[.int .i64 a0, .int .i64 b0, .int .i64 a1, .int .i64 b1] 23)).cell? ⟨w.heap.size, 3, none⟩ = some (.int .i64 y1) := by first | (simp; done) | go_simp
  have D4 : ((w.alloc (.cells #[.int .i64 x0, .int .i64 y0, .int .i64 x1, .int .i64 y1, .int .i64 s, .slice A zs.length c, .slice B ps.length k] 27)).alloc (.cells #[.int .i64 a0, .int .i64 b0, .int .i64 a1, .int .i64 b1] 23)).cell? ⟨w.heap.size, 4, none⟩ = some (.int .i64 s) := by first | (simp; done) | go_simp
  have D5 : ((w.alloc (.cells #[.int .i64 x0, .int .i64 y0, .int .i64 x1, .int .i64 y1, .int .i64 s, .slice A zs.length c, .slice B ps.length k] 27)).alloc (.cells #[.int .i64 a0, .int .i64 b0, .int .i64 a1, .int .i64 b1] 23)).cell? ⟨w.heap.size, 5, none⟩ = some (.slice A zs.length c) := by first | (simp; done) | go_simp
  have D6 : ((w.alloc (.cells #[.int .i64 x0, .int .i64 y0, .int .i64 x1, .int .i64 y1, .int .i64 s, .slice A zs.length c, .slice B ps.length k] 27)).alloc (.cells #[.int .i64 a0, .int .i64 b0, .int .i64 a1, .int .i64 b1] 23)).cell? ⟨w.heap.size, 6, none⟩ = some (.slice B ps.length k) := by first | (simp; done) | go_simp
  have R0 : ((w.alloc (.cells #[.int .i64 x0, .int .i64 y0, .int .i64 x1, .int .i64 y1, .int .i64 s, .slice A zs.length c, .slice B ps.length k] 27)).alloc (.cells #[.int .i64 a0, .int .i64 b0, .int .i64 a1, .int .i64 b1] 23)).cell? ⟨w.heap.size + 1, 0, none⟩ = some (.int .i64 a0) := by first | (simp; done) | go_simp
  have R1 : ((w.alloc (.cells #[.int .i64 x0, .int .i64 y0, .int .i64 x1, .int .i64 y1, .int .i64 s, .slice A zs.length c, .slice B ps.length k] 27)).alloc (.cells #[.int .i64 a0, .int .i64 b0, .int .i64 a1, .int .i64 b1] 23)).cell? ⟨w.heap.size + 1, 1, none⟩ = some (.int .i64 b0) := by first | (simp; done) | go_simp
  have R2 : ((w.alloc (.cells #[.int .i64 x0, .int .i64 y0, .int .i64 x1, .int .i64 y1, .int .i64 s, .slice A zs.length c, .slice B ps.length k] 27)).alloc (.cells #[.int .i64 a0, .int .i64 b0, .int .i64 a1, .int .i64 b1] 23)).cell? ⟨w.heap.size + 1, 2, none⟩ = some (.int .i64 a1) := by first | (simp; done) | go_simp
  have R3 : ((w.alloc (.cells #[.int .i64 x0, .int .i64 y0, .int .i64 x1, .int .i64 y1, .int .i64 s, .slice A zs.length c, .slice B ps.length k] 27)).alloc (.cells #[.int .i64 a0, .int .i64 b0, .int .i64 a1, .int .i64 b1] 23)).cell? ⟨w.heap.size + 1, 3, none⟩ = some (.int .i64 b1) := by first | (simp; done) | go_simp
  have tok1 : True := trivial
  go_enter Try.func14, Try.ntmps14
  go_wp2_with fail
  generalize (w.alloc (.cells #[.int .i64 x0, .int .i64 y0, .int .i64 x1, .int .i64 y1, .int .i64 s, .slice A zs.length c, .slice B ps.length k] 27)).alloc (.cells #[.int .i64 a0, .int .i64 b0, .int .i64 a1, .int .i64 b1] 23) = W0 at *
  generalize w.heap.size + 1 = br at *
  go_upto_region 1 with fail
  have P0 : Below W0.heap.size W0 W0.drew := (Below.refl _ _).drew
  have P0a : Below W0.heap.size W0 (W0.alloc (.cells #[.int .i64 0, .int .i64 0, .int .i64 0, .int .i64 0] 33)).drew := ((Below.refl _ _).alloc (Nat.le_refl _) _).drew
  have toS : ∀ W' : World, Below W0.heap.size W0 W' → (W'.cell? ⟨w.heap.size, 0, none⟩ = some (.int .i64 x0) ∧ W'.cell? ⟨w.heap.size, 1, none⟩ = some (.int .i64 y0) ∧ W'.cell? ⟨w.heap.size, 2, none⟩ = some (.int .i64 x1) ∧ W'.cell? ⟨w.heap.size, 3, none⟩ = some (.int .i64 y1) ∧ W'.cell? ⟨br, 0, none⟩ = some (.int .i64 a0) ∧ W'.cell? ⟨br, 1, none⟩ = some (.int .i64 b0) ∧ W'.cell? ⟨br, 2, none⟩ = some (.int .i64 a1) ∧ W'.cell? ⟨br, 3, none⟩ = some (.int .i64 b1)) := fun W' h => ⟨cell_kept D0 h, cell_kept D1 h, cell_kept D2 h, cell_kept D3 h, cell_kept R0 h, cell_kept R1 h, cell_kept R2 h, cell_kept R3 h⟩
  have TOS := Lib.hid toS
  clear toS
  go_cut [11, 12] (fun pp qq wx => ∃ bc : Nat, pp = .pointer (some ⟨bc, 0, none⟩) ∧ qq = .bool true ∧ W0.heap.size ≤ bc ∧ bc < wx.heap.size ∧ Below W0.heap.size W0 wx ∧ wx.cell? ⟨bc, 0, none⟩ = some (.int .i64 C0) ∧ wx.cell? ⟨bc, 1, none⟩ = some (.int .i64 C1) ∧ wx.cell? ⟨bc, 2, none⟩ = some (.int .i64 C2) ∧ wx.cell? ⟨bc, 3, none⟩ = some (.int .i64 C3))
  case first =>
    go_region_held3 (fun w' => w'.cell? ⟨w.heap.size, 0, none⟩ = some (.int .i64 x0) ∧ w'.cell? ⟨w.heap.size, 1, none⟩ = some (.int .i64 y0) ∧ w'.cell? ⟨w.heap.size, 2, none⟩ = some (.int .i64 x1) ∧ w'.cell? ⟨w.heap.size, 3, none⟩ = some (.int .i64 y1) ∧ w'.cell? ⟨br, 0, none⟩ = some (.int .i64 a0) ∧ w'.cell? ⟨br, 1, none⟩ = some (.int .i64 b0) ∧ w'.cell? ⟨br, 2, none⟩ = some (.int .i64 a1) ∧ w'.cell? ⟨br, 3, none⟩ = some (.int .i64 b1))
      ((refine TOS.out _ ?_; first | with_reducible exact P0 | with_reducible exact P0a | with_reducible exact P1 | with_reducible exact P1.alloc P1.size _ | with_reducible exact P2 | with_reducible exact P2.alloc P2.size _ | with_reducible exact P3 | with_reducible exact P3.alloc P3.size _ | with_reducible exact ((((P3.setCell (Nat.le_refl _) _).setCell (Nat.le_refl _) _).setCell (Nat.le_refl _) _).setCell (Nat.le_refl _) _) | with_reducible exact ((((P3.setCell P1.size _).setCell P1.size _).setCell P1.size _).setCell P1.size _) | with_reducible exact ((((P3.setCell P2.size _).setCell P2.size _).setCell P2.size _).setCell P2.size _)))
      (first | (go_at_call 20; have _t := tok1; refine (box_any x0 y0 x1 y1 _).mono ?_; rintro e u1 ⟨rfl, hv1⟩; clear tok1; (first | (have P1 : Below W0.heap.size W0 u1 := P0.trans (hv1.mono P0.size); skip) | (have P1 : Below W0.heap.size W0 u1 := P0a.trans (hv1.mono P0a.size); have zc0 : u1.cell? ⟨W0.heap.size, 0, none⟩ = some (.int .i64 0) := ((bcell hv1).1 _ 0 (by simp)).trans (by simp); have zf0 : u1.frozen? ⟨W0.heap.size, 0, none⟩ = false := ((bcell hv1).2 _ 0 (by simp)).trans (by simp); have zc1 : u1.cell? ⟨W0.heap.size, 1, none⟩ = some (.int .i64 0) := ((bcell hv1).1 _ 1 (by simp)).trans (by simp); have zf1 : u1.frozen? ⟨W0.heap.size, 1, none⟩ = false := ((bcell hv1).2 _ 1 (by simp)).trans (by simp); have zc2 : u1.cell? ⟨W0.heap.size, 2, none⟩ = some (.int .i64 0) := ((bcell hv1).1 _ 2 (by simp)).trans (by simp); have zf2 : u1.frozen? ⟨W0.heap.size, 2, none⟩ = false := ((bcell hv1).2 _ 2 (by simp)).trans (by simp); have zc3 : u1.cell? ⟨W0.heap.size, 3, none⟩ = some (.int .i64 0) := ((bcell hv1).1 _ 3 (by simp)).trans (by simp); have zf3 : u1.frozen? ⟨W0.heap.size, 3, none⟩ = false := ((bcell hv1).2 _ 3 (by simp)).trans (by simp)))) | (go_at_call 20; refine (box_any a0 b0 a1 b1 _).mono ?_; rintro e u2 ⟨rfl, hv2⟩; (first | (have P2 : Below W0.heap.size W0 u2 := P1.trans (hv2.mono P1.size); (try (replace zf0 := frozenK zc0 zf0 hv2; replace zc0 := cell_kept zc0 hv2; replace zf1 := frozenK zc1 zf1 hv2; replace zc1 := cell_kept zc1 hv2; replace zf2 := frozenK zc2 zf2 hv2; replace zc2 := cell_kept zc2 hv2; replace zf3 := frozenK zc3 zf3 hv2; replace zc3 := cell_kept zc3 hv2))) | (have P2 : Below W0.heap.size W0 u2 := (P1.alloc P1.size (.cells #[.int .i64 0, .int .i64 0, .int .i64 0, .int .i64 0] 33)).trans (hv2.mono (P1.alloc P1.size (.cells #[.int .i64 0, .int .i64 0, .int .i64 0, .int .i64 0] 33)).size); have zc0 : u2.cell? ⟨u1.heap.size, 0, none⟩ = some (.int .i64 0) := ((bcell hv2).1 _ 0 (by simp)).trans (by simp); have zf0 : u2.frozen? ⟨u1.heap.size, 0, none⟩ = false := ((bcell hv2).2 _ 0 (by simp)).trans (by simp); have zc1 : u2.cell? ⟨u1.heap.size, 1, none⟩ = some (.int .i64 0) := ((bcell hv2).1 _ 1 (by simp)).trans (by simp); have zf1 : u2.frozen? ⟨u1.heap.size, 1, none⟩ = false := ((bcell hv2).2 _ 1 (by simp)).trans (by simp); have zc2 : u2.cell? ⟨u1.heap.size, 2, none⟩ = some (.int .i64 0) := ((bcell hv2).1 _ 2 (by simp)).trans (by simp); have zf2 : u2.frozen? ⟨u1.heap.size, 2, none⟩ = false := ((bcell hv2).2 _ 2 (by simp)).trans (by simp); have zc3 : u2.cell? ⟨u1.heap.size, 3, none⟩ = some (.int .i64 0) := ((bcell hv2).1 _ 3 (by simp)).trans (by simp); have zf3 : u2.frozen? ⟨u1.heap.size, 3, none⟩ = false := ((bcell hv2).2 _ 3 (by simp)).trans (by simp)))) | (go_at_call 35; refine (common_any x0 y0 x1 y1 a0 b0 a1 b1 C0 C1 C2 C3 true hC.out _).mono ?_; rintro e u3 ⟨rfl, hv3⟩; (first | (have P3 : Below W0.heap.size W0 u3 := P2.trans (hv3.mono P2.size); (try (replace zf0 := frozenK zc0 zf0 hv3; replace zc0 := cell_kept zc0 hv3; replace zf1 := frozenK zc1 zf1 hv3; replace zc1 := cell_kept zc1 hv3; replace zf2 := frozenK zc2 zf2 hv3; replace zc2 := cell_kept zc2 hv3; replace zf3 := frozenK zc3 zf3 hv3; replace zc3 := cell_kept zc3 hv3))) | (have P3 : Below W0.heap.size W0 u3 := (P2.alloc P2.size (.cells #[.int .i64 0, .int .i64 0, .int .i64 0, .int .i64 0] 33)).trans (hv3.mono (P2.alloc P2.size (.cells #[.int .i64 0, .int .i64 0, .int .i64 0, .int .i64 0] 33)).size); have zc0 : u3.cell? ⟨u2.heap.size, 0, none⟩ = some (.int .i64 0) := ((bcell hv3).1 _ 0 (by simp)).trans (by simp); have zf0 : u3.frozen? ⟨u2.heap.size, 0, none⟩ = false := ((bcell hv3).2 _ 0 (by simp)).trans (by simp); have zc1 : u3.cell? ⟨u2.heap.size, 1, none⟩ = some (.int .i64 0) := ((bcell hv3).1 _ 1 (by simp)).trans (by simp); have zf1 : u3.frozen? ⟨u2.heap.size, 1, none⟩ = false := ((bcell hv3).2 _ 1 (by simp)).trans (by simp); have zc2 : u3.cell? ⟨u2.heap.size, 2, none⟩ = some (.int .i64 0) := ((bcell hv3).1 _ 2 (by simp)).trans (by simp); have zf2 : u3.frozen? ⟨u2.heap.size, 2, none⟩ = false := ((bcell hv3).2 _ 2 (by simp)).trans (by simp); have zc3 : u3.cell? ⟨u2.heap.size, 3, none⟩ = some (.int .i64 0) := ((bcell hv3).1 _ 3 (by simp)).trans (by simp); have zf3 : u3.frozen? ⟨u2.heap.size, 3, none⟩ = false := ((bcell hv3).2 _ 3 (by simp)).trans (by simp)))))
    all_goals
      go_wp2_with fail
      go_meet
      have z1 := P1.size
      have z2 := P2.size
      have z3 := P3.size
      have y2 := hv2.size
      have y3 := hv3.size
      first
        | exact ⟨u3.heap.size, rfl, rfl, P3.size, by simp, P3.alloc P3.size _, by simp, by simp, by simp, by simp⟩
        | exact ⟨W0.heap.size, rfl, rfl, Nat.le_refl _, lt_sets (World.block_lt_of_cell? _ _ zc0) (by simp [World.setCell]), ((((P3.setCell (Nat.le_refl _) _).setCell (Nat.le_refl _) _).setCell (Nat.le_refl _) _).setCell (Nat.le_refl _) _), by go_simp, by go_simp, by go_simp, by go_simp⟩
        | exact ⟨u1.heap.size, rfl, rfl, P1.size, lt_sets (World.block_lt_of_cell? _ _ zc0) (by simp [World.setCell]), ((((P3.setCell P1.size _).setCell P1.size _).setCell P1.size _).setCell P1.size _), by go_simp, by go_simp, by go_simp, by go_simp⟩
        | exact ⟨u2.heap.size, rfl, rfl, P2.size, lt_sets (World.block_lt_of_cell? _ _ zc0) (by simp [World.setCell]), ((((P3.setCell P2.size _).setCell P2.size _).setCell P2.size _).setCell P2.size _), by go_simp, by go_simp, by go_simp, by go_simp⟩
  case rest =>
    clear TOS P0 P0a
    obtain ⟨bc, rfl, rfl, hbc, hbl, hBm, cc0, cc1, cc2, cc3⟩ := hcut
    replace D0 := cell_kept D0 hBm
    replace D1 := cell_kept D1 hBm
    replace D2 := cell_kept D2 hBm
    replace D3 := cell_kept D3 hBm
    replace D4 := cell_kept D4 hBm
    replace D5 := cell_kept D5 hBm
    replace D6 := cell_kept D6 hBm
    replace R0 := cell_kept R0 hBm
    replace R1 := cell_kept R1 hBm
    replace R2 := cell_kept R2 hBm
    replace R3 := cell_kept R3 hBm
    replace hB := hB.trans (hBm.mono hB.size)
    clear hBm hbc
    go_wp2_with fail
    refine (fitsK_any x0 y0 x1 y1 s A c zs B k ps true (by simp [hF.out]) _).mono ?_
    rintro e w1 ⟨rfl, hb1⟩
    replace D0 := cell_kept D0 hb1
    replace D1 := cell_kept D1 hb1
    replace D2 := cell_kept D2 hb1
    replace D3 := cell_kept D3 hb1
    replace D4 := cell_kept D4 hb1
    replace D5 := cell_kept D5 hb1
    replace D6 := cell_kept D6 hb1
    replace R0 := cell_kept R0 hb1
    replace R1 := cell_kept R1 hb1
    replace R2 := cell_kept R2 hb1
    replace R3 := cell_kept R3 hb1
    replace cc0 := cell_kept cc0 hb1
    replace cc1 := cell_kept cc1 hb1
    replace cc2 := cell_kept cc2 hb1
    replace cc3 := cell_kept cc3 hb1
    replace hB := hB.trans (hb1.mono hB.size)
    clear hb1
    go_wp2_with fail
    refine (box_any a0 b0 a1 b1 _).mono ?_
    rintro e w2 ⟨rfl, hb2⟩
    replace D0 := cell_kept D0 hb2
    replace D1 := cell_kept D1 hb2
    replace D2 := cell_kept D2 hb2
    replace D3 := cell_kept D3 hb2
    replace D4 := cell_kept D4 hb2
    replace D5 := cell_kept D5 hb2
    replace D6 := cell_kept D6 hb2
    replace R0 := cell_kept R0 hb2
    replace R1 := cell_kept R1 hb2
    replace R2 := cell_kept R2 hb2
    replace R3 := cell_kept R3 hb2
    replace cc0 := cell_kept cc0 hb2
    replace cc1 := cell_kept cc1 hb2
    replace cc2 := cell_kept cc2 hb2
    replace cc3 := cell_kept cc3 hb2
    replace hB := hB.trans (hb2.mono hB.size)
    clear hb2
    go_wp2_with fail
    refine (near4_any a0 b0 a1 b1 true (by simp [hN.out]) _).mono ?_
    rintro e w3 ⟨rfl, hb3⟩
    replace D0 := cell_kept D0 hb3
    replace D1 := cell_kept D1 hb3
    replace D2 := cell_kept D2 hb3
    replace D3 := cell_kept D3 hb3
    replace D4 := cell_kept D4 hb3
    replace D5 := cell_kept D5 hb3
    replace D6 := cell_kept D6 hb3
    replace R0 := cell_kept R0 hb3
    replace R1 := cell_kept R1 hb3
    replace R2 := cell_kept R2 hb3
    replace R3 := cell_kept R3 hb3
    replace cc0 := cell_kept cc0 hb3
    replace cc1 := cell_kept cc1 hb3
    replace cc2 := cell_kept cc2 hb3
    replace cc3 := cell_kept cc3 hb3
    replace hB := hB.trans (hb3.mono hB.size)
    clear hb3
    go_wp2_with fail
    refine (insd_any C0 C1 C2 C3 x y false (by simp [hI.out]) _).mono ?_
    rintro e w4 ⟨rfl, hb4⟩
    replace D0 := cell_kept D0 hb4
    replace D1 := cell_kept D1 hb4
    replace D2 := cell_kept D2 hb4
    replace D3 := cell_kept D3 hb4
    replace D4 := cell_kept D4 hb4
    replace D5 := cell_kept D5 hb4
    replace D6 := cell_kept D6 hb4
    replace R0 := cell_kept R0 hb4
    replace R1 := cell_kept R1 hb4
    replace R2 := cell_kept R2 hb4
    replace R3 := cell_kept R3 hb4
    replace cc0 := cell_kept cc0 hb4
    replace cc1 := cell_kept cc1 hb4
    replace cc2 := cell_kept cc2 hb4
    replace cc3 := cell_kept cc3 hb4
    replace hB := hB.trans (hb4.mono hB.size)
    clear hb4
    go_wp2
    go_ret
    exact ⟨by simp, hB⟩

set_option maxRecDepth 100000 in
set_option maxHeartbeats 8000000 in
theorem sh_in (x0 y0 x1 y1 s : Int) (A : Option Addr) (c : Nat) (zs : List Int) (B : Option Addr) (k : Nat) (ps : List (Int × Int × Int × Int)) (a0 b0 a1 b1 x y v : Int) (w : World) (hr : Hid (Reads w A zs)) (hy : Hid (Bytes zs)) (hl : Small zs) (hn : Hid (A = none → c = 0)) (pr : Hid (PReads w B ps)) (pl : (ps.length : Int) ≤ 2097152) (t0 : 0 ≤ v) (t1 : v ≤ 255) (C0 C1 C2 C3 : Int) (cb : Bool) (hC : Hid (ComOf x0 y0 x1 y1 a0 b0 a1 b1 C0 C1 C2 C3 cb)) (hF : Hid (Fits x0 y0 x1 y1 s 1 zs.length)) (hN : Hid (Near4 a0 b0 a1 b1)) (hcb : cb = true) (hI : Hid (Insd C0 C1 C2 C3 x y)) (m1 : Hid (max x0 a0 = C0)) (m2 : Hid (max y0 b0 = C1)) (m3 : Hid (min x1 a1 = C2)) (m4 : Hid (min y1 b1 = C3)) (n5 : Hid (max x0 a0 < min x1 a1)) (n6 : Hid (max y0 b0 < min y1 b1)) :
    Calls Try.prog 14 #[.agg #[.int .i64 x0, .int .i64 y0, .int .i64 x1, .int .i64 y1, .int .i64 s, .slice A zs.length c, .slice B ps.length k], .agg #[.int .i64 a0, .int .i64 b0, .int .i64 a1, .int .i64 b1], .int .i64 x, .int .i64 y, .int .u8 v] w fun e w' => e = .returned (.bool true) ∧ Below w.heap.size w w' := by
  subst hcb
  have hW : Hid (Within C0 C1 C2 C3 x0 y0 x1 y1) := by unfold Hid; rw [← m1.out, ← m2.out, ← m3.out, ← m4.out]; exact within_of _ _ _ _ _ _ _ _
  have hB : Below w.heap.size w ((w.alloc (.cells #[.int .i64 x0, .int .i64 y0, .int .i64 x1, .int .i64 y1, .int .i64 s, .slice A zs.length c, .slice B ps.length k] 27)).alloc (.cells #[.int .i64 a0, .int .i64 b0, .int .i64 a1, .int .i64 b1] 23)) := ((Below.refl _ _).alloc (Nat.le_refl _) _).alloc (by simp) _
  have D0 : ((w.alloc (.cells #[.int .i64 x0, .int .i64 y0, .int .i64 x1, .int .i64 y1, .int .i64 s, .slice A zs.length c, .slice B ps.length k] 27)).alloc (.cells #[.int .i64 a0, .int .i64 b0, .int .i64 a1, .int .i64 b1] 23)).cell? ⟨w.heap.size, 0, none⟩ = some (.int .i64 x0) := by first | (simp; done) | go_simp
  have D1 : ((w.alloc (.cells #[.int .i64 x0, .int .i64 y0, .int .i64 x1, .int .i64 y1, .int .i64 s, .slice A zs.length c, .slice B ps.length k] 27)).alloc (.cells #[.int .i64 a0, .int .i64 b0, .int .i64 a1, .int .i64 b1] 23)).cell? ⟨w.heap.size, 1, none⟩ = some (.int .i64 y0) := by first | (simp; done) | go_simp
  have D2 : ((w.alloc (.cells #[.int .i64 x0, .int .i64 y0, .int .i64 x1, .int .i64 y1, .int .i64 s, .slice A zs.length c, .slice B ps.length k] 27)).alloc (.cells #[.int .i64 a0, .int .i64 b0, .int .i64 a1, .int .i64 b1] 23)).cell? ⟨w.heap.size, 2, none⟩ = some (.int .i64 x1) := by first | (simp; done) | go_simp
  have D3 : ((w.alloc (.cells #[.int .i64 x0, .int .i64 y0, .int .i64 x1, .int .i64 y1, .int .i64 s, .slice A zs.length c, .slice B ps.length k] 27)).alloc (.cells #[.int .i64 a0, .int .i64 b0, .int .i64 a1, .int .i64 b1] 23)).cell? ⟨w.heap.size, 3, none⟩ = some (.int .i64 y1) := by first | (simp; done) | go_simp
  have D4 : ((w.alloc (.cells #[.int .i64 x0, .int .i64 y0, .int .i64 x1, .int .i64 y1, .int .i64 s, .slice A zs.length c, .slice B ps.length k] 27)).alloc (.cells #[.int .i64 a0, .int .i64 b0, .int .i64 a1, .int .i64 b1] 23)).cell? ⟨w.heap.size, 4, none⟩ = some (.int .i64 s) := by first | (simp; done) | go_simp
  have D5 : ((w.alloc (.cells #[.int .i64 x0, .int .i64 y0, .int .i64 x1, .int .i64 y1, .int .i64 s, .slice A zs.length c, .slice B ps.length k] 27)).alloc (.cells #[.int .i64 a0, .int .i64 b0, .int .i64 a1, .int .i64 b1] 23)).cell? ⟨w.heap.size, 5, none⟩ = some (.slice A zs.length c) := by first | (simp; done) | go_simp
  have D6 : ((w.alloc (.cells #[.int .i64 x0, .int .i64 y0, .int .i64 x1, .int .i64 y1, .int .i64 s, .slice A zs.length c, .slice B ps.length k] 27)).alloc (.cells #[.int .i64 a0, .int .i64 b0, .int .i64 a1, .int .i64 b1] 23)).cell? ⟨w.heap.size, 6, none⟩ = some (.slice B ps.length k) := by first | (simp; done) | go_simp
  have R0 : ((w.alloc (.cells #[.int .i64 x0, .int .i64 y0, .int .i64 x1, .int .i64 y1, .int .i64 s, .slice A zs.length c, .slice B ps.length k] 27)).alloc (.cells #[.int .i64 a0, .int .i64 b0, .int .i64 a1, .int .i64 b1] 23)).cell? ⟨w.heap.size + 1, 0, none⟩ = some (.int .i64 a0) := by first | (simp; done) | go_simp
  have R1 : ((w.alloc (.cells #[.int .i64 x0, .int .i64 y0, .int .i64 x1, .int .i64 y1, .int .i64 s, .slice A zs.length c, .slice B ps.length k] 27)).alloc (.cells #[.int .i64 a0, .int .i64 b0, .int .i64 a1, .int .i64 b1] 23)).cell? ⟨w.heap.size + 1, 1, none⟩ = some (.int .i64 b0) := by first | (simp; done) | go_simp
  have R2 : ((w.alloc (.cells #[.int .i64 x0, .int .i64 y0, .int .i64 x1, .int .i64 y1, .int .i64 s, .slice A zs.length c, .slice B ps.length k] 27)).alloc (.cells #[.int .i64 a0, .int .i64 b0, .int .i64 a1, .int .i64 b1] 23)).cell? ⟨w.heap.size + 1, 2, none⟩ = some (.int .i64 a1) := by first | (simp; done) | go_simp
  have R3 : ((w.alloc (.cells #[.int .i64 x0, .int .i64 y0, .int .i64 x1, .int .i64 y1, .int .i64 s, .slice A zs.length c, .slice B ps.length k] 27)).alloc (.cells #[.int .i64 a0, .int .i64 b0, .int .i64 a1, .int .i64 b1] 23)).cell? ⟨w.heap.size + 1, 3, none⟩ = some (.int .i64 b1) := by first | (simp; done) | go_simp
  have tok1 : True := trivial
  go_enter Try.func14, Try.ntmps14
  go_wp2_with fail
  generalize (w.alloc (.cells #[.int .i64 x0, .int .i64 y0, .int .i64 x1, .int .i64 y1, .int .i64 s, .slice A zs.length c, .slice B ps.length k] 27)).alloc (.cells #[.int .i64 a0, .int .i64 b0, .int .i64 a1, .int .i64 b1] 23) = W0 at *
  generalize w.heap.size + 1 = br at *
  go_upto_region 1 with fail
  have P0 : Below W0.heap.size W0 W0.drew := (Below.refl _ _).drew
  have P0a : Below W0.heap.size W0 (W0.alloc (.cells #[.int .i64 0, .int .i64 0, .int .i64 0, .int .i64 0] 33)).drew := ((Below.refl _ _).alloc (Nat.le_refl _) _).drew
  have toS : ∀ W' : World, Below W0.heap.size W0 W' → (W'.cell? ⟨w.heap.size, 0, none⟩ = some (.int .i64 x0) ∧ W'.cell? ⟨w.heap.size, 1, none⟩ = some (.int .i64 y0) ∧ W'.cell? ⟨w.heap.size, 2, none⟩ = some (.int .i64 x1) ∧ W'.cell? ⟨w.heap.size, 3, none⟩ = some (.int .i64 y1) ∧ W'.cell? ⟨br, 0, none⟩ = some (.int .i64 a0) ∧ W'.cell? ⟨br, 1, none⟩ = some (.int .i64 b0) ∧ W'.cell? ⟨br, 2, none⟩ = some (.int .i64 a1) ∧ W'.cell? ⟨br, 3, none⟩ = some (.int .i64 b1)) := fun W' h => ⟨cell_kept D0 h, cell_kept D1 h, cell_kept D2 h, cell_kept D3 h, cell_kept R0 h, cell_kept R1 h, cell_kept R2 h, cell_kept R3 h⟩
  have TOS := Lib.hid toS
  clear toS
  go_cut [11, 12] (fun pp qq wx => ∃ bc : Nat, pp = .pointer (some ⟨bc, 0, none⟩) ∧ qq = .bool true ∧ W0.heap.size ≤ bc ∧ bc < wx.heap.size ∧ Below W0.heap.size W0 wx ∧ wx.cell? ⟨bc, 0, none⟩ = some (.int .i64 C0) ∧ wx.cell? ⟨bc, 1, none⟩ = some (.int .i64 C1) ∧ wx.cell? ⟨bc, 2, none⟩ = some (.int .i64 C2) ∧ wx.cell? ⟨bc, 3, none⟩ = some (.int .i64 C3))
  case first =>
    go_region_held3 (fun w' => w'.cell? ⟨w.heap.size, 0, none⟩ = some (.int .i64 x0) ∧ w'.cell? ⟨w.heap.size, 1, none⟩ = some (.int .i64 y0) ∧ w'.cell? ⟨w.heap.size, 2, none⟩ = some (.int .i64 x1) ∧ w'.cell? ⟨w.heap.size, 3, none⟩ = some (.int .i64 y1) ∧ w'.cell? ⟨br, 0, none⟩ = some (.int .i64 a0) ∧ w'.cell? ⟨br, 1, none⟩ = some (.int .i64 b0) ∧ w'.cell? ⟨br, 2, none⟩ = some (.int .i64 a1) ∧ w'.cell? ⟨br, 3, none⟩ = some (.int .i64 b1))
      ((refine TOS.out _ ?_; first | with_reducible exact P0 | with_reducible exact P0a | with_reducible exact P1 | with_reducible exact P1.alloc P1.size _ | with_reducible exact P2 | with_reducible exact P2.alloc P2.size _ | with_reducible exact P3 | with_reducible exact P3.alloc P3.size _ | with_reducible exact ((((P3.setCell (Nat.le_refl _) _).setCell (Nat.le_refl _) _).setCell (Nat.le_refl _) _).setCell (Nat.le_refl _) _) | with_reducible exact ((((P3.setCell P1.size _).setCell P1.size _).setCell P1.size _).setCell P1.size _) | with_reducible exact ((((P3.setCell P2.size _).setCell P2.size _).setCell P2.size _).setCell P2.size _)))
      (first | (go_at_call 20; have _t := tok1; refine (box_any x0 y0 x1 y1 _).mono ?_; rintro e u1 ⟨rfl, hv1⟩; clear tok1; (first | (have P1 : Below W0.heap.size W0 u1 := P0.trans (hv1.mono P0.size); skip) | (have P1 : Below W0.heap.size W0 u1 := P0a.trans (hv1.mono P0a.size); have zc0 : u1.cell? ⟨W0.heap.size, 0, none⟩ = some (.int .i64 0) := ((bcell hv1).1 _ 0 (by simp)).trans (by simp); have zf0 : u1.frozen? ⟨W0.heap.size, 0, none⟩ = false := ((bcell hv1).2 _ 0 (by simp)).trans (by simp); have zc1 : u1.cell? ⟨W0.heap.size, 1, none⟩ = some (.int .i64 0) := ((bcell hv1).1 _ 1 (by simp)).trans (by simp); have zf1 : u1.frozen? ⟨W0.heap.size, 1, none⟩ = false := ((bcell hv1).2 _ 1 (by simp)).trans (by simp); have zc2 : u1.cell? ⟨W0.heap.size, 2, none⟩ = some (.int .i64 0) := ((bcell hv1).1 _ 2 (by simp)).trans (by simp); have zf2 : u1.frozen? ⟨W0.heap.size, 2, none⟩ = false := ((bcell hv1).2 _ 2 (by simp)).trans (by simp); have zc3 : u1.cell? ⟨W0.heap.size, 3, none⟩ = some (.int .i64 0) := ((bcell hv1).1 _ 3 (by simp)).trans (by simp); have zf3 : u1.frozen? ⟨W0.heap.size, 3, none⟩ = false := ((bcell hv1).2 _ 3 (by simp)).trans (by simp)))) | (go_at_call 20; refine (box_any a0 b0 a1 b1 _).mono ?_; rintro e u2 ⟨rfl, hv2⟩; (first | (have P2 : Below W0.heap.size W0 u2 := P1.trans (hv2.mono P1.size); (try (replace zf0 := frozenK zc0 zf0 hv2; replace zc0 := cell_kept zc0 hv2; replace zf1 := frozenK zc1 zf1 hv2; replace zc1 := cell_kept zc1 hv2; replace zf2 := frozenK zc2 zf2 hv2; replace zc2 := cell_kept zc2 hv2; replace zf3 := frozenK zc3 zf3 hv2; replace zc3 := cell_kept zc3 hv2))) | (have P2 : Below W0.heap.size W0 u2 := (P1.alloc P1.size (.cells #[.int .i64 0, .int .i64 0, .int .i64 0, .int .i64 0] 33)).trans (hv2.mono (P1.alloc P1.size (.cells #[.int .i64 0, .int .i64 0, .int .i64 0, .int .i64 0] 33)).size); have zc0 : u2.cell? ⟨u1.heap.size, 0, none⟩ = some (.int .i64 0) := ((bcell hv2).1 _ 0 (by simp)).trans (by simp); have zf0 : u2.frozen? ⟨u1.heap.size, 0, none⟩ = false := ((bcell hv2).2 _ 0 (by simp)).trans (by simp); have zc1 : u2.cell? ⟨u1.heap.size, 1, none⟩ = some (.int .i64 0) := ((bcell hv2).1 _ 1 (by simp)).trans (by simp); have zf1 : u2.frozen? ⟨u1.heap.size, 1, none⟩ = false := ((bcell hv2).2 _ 1 (by simp)).trans (by simp); have zc2 : u2.cell? ⟨u1.heap.size, 2, none⟩ = some (.int .i64 0) := ((bcell hv2).1 _ 2 (by simp)).trans (by simp); have zf2 : u2.frozen? ⟨u1.heap.size, 2, none⟩ = false := ((bcell hv2).2 _ 2 (by simp)).trans (by simp); have zc3 : u2.cell? ⟨u1.heap.size, 3, none⟩ = some (.int .i64 0) := ((bcell hv2).1 _ 3 (by simp)).trans (by simp); have zf3 : u2.frozen? ⟨u1.heap.size, 3, none⟩ = false := ((bcell hv2).2 _ 3 (by simp)).trans (by simp)))) | (go_at_call 35; refine (common_any x0 y0 x1 y1 a0 b0 a1 b1 C0 C1 C2 C3 true hC.out _).mono ?_; rintro e u3 ⟨rfl, hv3⟩; (first | (have P3 : Below W0.heap.size W0 u3 := P2.trans (hv3.mono P2.size); (try (replace zf0 := frozenK zc0 zf0 hv3; replace zc0 := cell_kept zc0 hv3; replace zf1 := frozenK zc1 zf1 hv3; replace zc1 := cell_kept zc1 hv3; replace zf2 := frozenK zc2 zf2 hv3; replace zc2 := cell_kept zc2 hv3; replace zf3 := frozenK zc3 zf3 hv3; replace zc3 := cell_kept zc3 hv3))) | (have P3 : Below W0.heap.size W0 u3 := (P2.alloc P2.size (.cells #[.int .i64 0, .int .i64 0, .int .i64 0, .int .i64 0] 33)).trans (hv3.mono (P2.alloc P2.size (.cells #[.int .i64 0, .int .i64 0, .int .i64 0, .int .i64 0] 33)).size); have zc0 : u3.cell? ⟨u2.heap.size, 0, none⟩ = some (.int .i64 0) := ((bcell hv3).1 _ 0 (by simp)).trans (by simp); have zf0 : u3.frozen? ⟨u2.heap.size, 0, none⟩ = false := ((bcell hv3).2 _ 0 (by simp)).trans (by simp); have zc1 : u3.cell? ⟨u2.heap.size, 1, none⟩ = some (.int .i64 0) := ((bcell hv3).1 _ 1 (by simp)).trans (by simp); have zf1 : u3.frozen? ⟨u2.heap.size, 1, none⟩ = false := ((bcell hv3).2 _ 1 (by simp)).trans (by simp); have zc2 : u3.cell? ⟨u2.heap.size, 2, none⟩ = some (.int .i64 0) := ((bcell hv3).1 _ 2 (by simp)).trans (by simp); have zf2 : u3.frozen? ⟨u2.heap.size, 2, none⟩ = false := ((bcell hv3).2 _ 2 (by simp)).trans (by simp); have zc3 : u3.cell? ⟨u2.heap.size, 3, none⟩ = some (.int .i64 0) := ((bcell hv3).1 _ 3 (by simp)).trans (by simp); have zf3 : u3.frozen? ⟨u2.heap.size, 3, none⟩ = false := ((bcell hv3).2 _ 3 (by simp)).trans (by simp)))))
    all_goals
      go_wp2_with fail
      go_meet
      have z1 := P1.size
      have z2 := P2.size
      have z3 := P3.size
      have y2 := hv2.size
      have y3 := hv3.size
      first
        | exact ⟨u3.heap.size, rfl, rfl, P3.size, by simp, P3.alloc P3.size _, by simp, by simp, by simp, by simp⟩
        | exact ⟨W0.heap.size, rfl, rfl, Nat.le_refl _, lt_sets (World.block_lt_of_cell? _ _ zc0) (by simp [World.setCell]), ((((P3.setCell (Nat.le_refl _) _).setCell (Nat.le_refl _) _).setCell (Nat.le_refl _) _).setCell (Nat.le_refl _) _), by go_simp, by go_simp, by go_simp, by go_simp⟩
        | exact ⟨u1.heap.size, rfl, rfl, P1.size, lt_sets (World.block_lt_of_cell? _ _ zc0) (by simp [World.setCell]), ((((P3.setCell P1.size _).setCell P1.size _).setCell P1.size _).setCell P1.size _), by go_simp, by go_simp, by go_simp, by go_simp⟩
        | exact ⟨u2.heap.size, rfl, rfl, P2.size, lt_sets (World.block_lt_of_cell? _ _ zc0) (by simp [World.setCell]), ((((P3.setCell P2.size _).setCell P2.size _).setCell P2.size _).setCell P2.size _), by go_simp, by go_simp, by go_simp, by go_simp⟩
  case rest =>
    clear TOS P0 P0a
    obtain ⟨bc, rfl, rfl, hbc, hbl, hBm, cc0, cc1, cc2, cc3⟩ := hcut
    replace D0 := cell_kept D0 hBm
    replace D1 := cell_kept D1 hBm
    replace D2 := cell_kept D2 hBm
    replace D3 := cell_kept D3 hBm
    replace D4 := cell_kept D4 hBm
    replace D5 := cell_kept D5 hBm
    replace D6 := cell_kept D6 hBm
    replace R0 := cell_kept R0 hBm
    replace R1 := cell_kept R1 hBm
    replace R2 := cell_kept R2 hBm
    replace R3 := cell_kept R3 hBm
    replace hB := hB.trans (hBm.mono hB.size)
    clear hBm hbc
    go_wp2_with fail
    refine (fitsK_any x0 y0 x1 y1 s A c zs B k ps true (by simp [hF.out]) _).mono ?_
    rintro e w1 ⟨rfl, hb1⟩
    replace D0 := cell_kept D0 hb1
    replace D1 := cell_kept D1 hb1
    replace D2 := cell_kept D2 hb1
    replace D3 := cell_kept D3 hb1
    replace D4 := cell_kept D4 hb1
    replace D5 := cell_kept D5 hb1
    replace D6 := cell_kept D6 hb1
    replace R0 := cell_kept R0 hb1
    replace R1 := cell_kept R1 hb1
    replace R2 := cell_kept R2 hb1
    replace R3 := cell_kept R3 hb1
    replace cc0 := cell_kept cc0 hb1
    replace cc1 := cell_kept cc1 hb1
    replace cc2 := cell_kept cc2 hb1
    replace cc3 := cell_kept cc3 hb1
    replace hB := hB.trans (hb1.mono hB.size)
    clear hb1
    go_wp2_with fail
    refine (box_any a0 b0 a1 b1 _).mono ?_
    rintro e w2 ⟨rfl, hb2⟩
    replace D0 := cell_kept D0 hb2
    replace D1 := cell_kept D1 hb2
    replace D2 := cell_kept D2 hb2
    replace D3 := cell_kept D3 hb2
    replace D4 := cell_kept D4 hb2
    replace D5 := cell_kept D5 hb2
    replace D6 := cell_kept D6 hb2
    replace R0 := cell_kept R0 hb2
    replace R1 := cell_kept R1 hb2
    replace R2 := cell_kept R2 hb2
    replace R3 := cell_kept R3 hb2
    replace cc0 := cell_kept cc0 hb2
    replace cc1 := cell_kept cc1 hb2
    replace cc2 := cell_kept cc2 hb2
    replace cc3 := cell_kept cc3 hb2
    replace hB := hB.trans (hb2.mono hB.size)
    clear hb2
    go_wp2_with fail
    refine (near4_any a0 b0 a1 b1 true (by simp [hN.out]) _).mono ?_
    rintro e w3 ⟨rfl, hb3⟩
    replace D0 := cell_kept D0 hb3
    replace D1 := cell_kept D1 hb3
    replace D2 := cell_kept D2 hb3
    replace D3 := cell_kept D3 hb3
    replace D4 := cell_kept D4 hb3
    replace D5 := cell_kept D5 hb3
    replace D6 := cell_kept D6 hb3
    replace R0 := cell_kept R0 hb3
    replace R1 := cell_kept R1 hb3
    replace R2 := cell_kept R2 hb3
    replace R3 := cell_kept R3 hb3
    replace cc0 := cell_kept cc0 hb3
    replace cc1 := cell_kept cc1 hb3
    replace cc2 := cell_kept cc2 hb3
    replace cc3 := cell_kept cc3 hb3
    replace hB := hB.trans (hb3.mono hB.size)
    clear hb3
    go_wp2_with fail
    refine (insd_any C0 C1 C2 C3 x y true (by simp [hI.out]) _).mono ?_
    rintro e w4 ⟨rfl, hb4⟩
    replace D0 := cell_kept D0 hb4
    replace D1 := cell_kept D1 hb4
    replace D2 := cell_kept D2 hb4
    replace D3 := cell_kept D3 hb4
    replace D4 := cell_kept D4 hb4
    replace D5 := cell_kept D5 hb4
    replace D6 := cell_kept D6 hb4
    replace R0 := cell_kept R0 hb4
    replace R1 := cell_kept R1 hb4
    replace R2 := cell_kept R2 hb4
    replace R3 := cell_kept R3 hb4
    replace cc0 := cell_kept cc0 hb4
    replace cc1 := cell_kept cc1 hb4
    replace cc2 := cell_kept cc2 hb4
    replace cc3 := cell_kept cc3 hb4
    replace hB := hB.trans (hb4.mono hB.size)
    clear hb4
    clear cc0 cc1 cc2 cc3
    have HK0 := Lib.hid (⟨hB, D0, D1, D2, D3, D4, D5, D6, R0, R1, R2, R3⟩ : Below w.heap.size w w4 ∧ w4.cell? ⟨w.heap.size, 0, none⟩ = some (.int .i64 x0) ∧ w4.cell? ⟨w.heap.size, 1, none⟩ = some (.int .i64 y0) ∧ w4.cell? ⟨w.heap.size, 2, none⟩ = some (.int .i64 x1) ∧ w4.cell? ⟨w.heap.size, 3, none⟩ = some (.int .i64 y1) ∧ w4.cell? ⟨w.heap.size, 4, none⟩ = some (.int .i64 s) ∧ w4.cell? ⟨w.heap.size, 5, none⟩ = some (.slice A zs.length c) ∧ w4.cell? ⟨w.heap.size, 6, none⟩ = some (.slice B ps.length k) ∧ w4.cell? ⟨br, 0, none⟩ = some (.int .i64 a0) ∧ w4.cell? ⟨br, 1, none⟩ = some (.int .i64 b0) ∧ w4.cell? ⟨br, 2, none⟩ = some (.int .i64 a1) ∧ w4.cell? ⟨br, 3, none⟩ = some (.int .i64 b1))
    go_wp2
    go_loopw [44] (fun q wr => ∃ i : Nat, i ≤ 2 ∧ q = .int .i64 i ∧ Hid (Below w.heap.size w wr ∧ wr.cell? ⟨w.heap.size, 0, none⟩ = some (.int .i64 x0) ∧ wr.cell? ⟨w.heap.size, 1, none⟩ = some (.int .i64 y0) ∧ wr.cell? ⟨w.heap.size, 2, none⟩ = some (.int .i64 x1) ∧ wr.cell? ⟨w.heap.size, 3, none⟩ = some (.int .i64 y1) ∧ wr.cell? ⟨w.heap.size, 4, none⟩ = some (.int .i64 s) ∧ wr.cell? ⟨w.heap.size, 5, none⟩ = some (.slice A zs.length c) ∧ wr.cell? ⟨w.heap.size, 6, none⟩ = some (.slice B ps.length k) ∧ wr.cell? ⟨br, 0, none⟩ = some (.int .i64 a0) ∧ wr.cell? ⟨br, 1, none⟩ = some (.int .i64 b0) ∧ wr.cell? ⟨br, 2, none⟩ = some (.int .i64 a1) ∧ wr.cell? ⟨br, 3, none⟩ = some (.int .i64 b1))) (fun q _ => 2 - (intOf q).toNat)
    case atStart => exact ⟨0, by omega, rfl, HK0⟩
    case round =>
      obtain ⟨i, hi, rfl, HK⟩ := hrel
      clear HK0 D0 D1 D2 D3 D4 D5 D6 R0 R1 R2 R3 hB
      obtain ⟨hB, D0, D1, D2, D3, D4, D5, D6, R0, R1, R2, R3⟩ := id HK.out
      by_cases hi2 : i < 2
      · have hi3 : (i : Int) < 2 := by omega
        obtain ⟨kk, j, HJ, HKJ, HLE, HRUN, HF2⟩ := shares_plain hF.out ⟨1, 0, 0, 0, a0, b0, a1, b1, 0, 0, 0, 0, 0⟩ ⟨0, (i : Int), x, y, 0, 0, 0, 0, 0, 0, 0, 0, v⟩ rfl rfl rfl (by simp only []; omega) n5.out n6.out (by rw [m1.out, m2.out, m3.out, m4.out]; exact hI.out)
        simp only [] at HJ HKJ HRUN HF2
        rw [m1.out, m2.out, m3.out, m4.out] at HRUN HF2
        rw [m1.out, m2.out] at HJ
        rw [Int.mul_one] at HJ HKJ
        have HJ := Lib.hid HJ
        have HKJ := Lib.hid HKJ
        have HLE := Lib.hid HLE
        have HRUN := Lib.hid HRUN
        have HF2 := Lib.hid HF2
        have HPL : Hid ((putS zs (kk + j) ⟨0, (i : Int), x, y, 0, 0, 0, 0, 0, 0, 0, 0, v⟩).length = zs.length) := putS_length _ _ _
        have HPN : Hid ((putS zs (kk + j) ⟨0, (i : Int), x, y, 0, 0, 0, 0, 0, 0, 0, 0, v⟩).getD (kk + j) 0 = v) := getD_set zs (kk + j) v (by have := HLE.out; omega)
        have HST : Hid (StepsAt (wr.alloc (.cells #[.int .i64 1, .int .i64 0, .int .i64 0, .int .i64 0, .int .i64 a0, .int .i64 b0, .int .i64 a1, .int .i64 b1, .int .u16 0, .int .u16 0, .int .u16 0, .int .u16 0, .int .u8 0, .int .i64 0, .int .i64 (i : Int), .int .i64 x, .int .i64 y, .int .i64 0, .int .i64 0, .int .i64 0, .int .i64 0, .int .u16 0, .int .u16 0, .int .u16 0, .int .u16 0, .int .u8 v] 61)) (some ⟨wr.heap.size, 0, none⟩) [⟨1, 0, 0, 0, a0, b0, a1, b1, 0, 0, 0, 0, 0⟩, ⟨0, (i : Int), x, y, 0, 0, 0, 0, 0, 0, 0, 0, v⟩]) := steps2 _ _
        have HOK : Hid (∀ p ∈ ([⟨1, 0, 0, 0, a0, b0, a1, b1, 0, 0, 0, 0, 0⟩, ⟨0, (i : Int), x, y, 0, 0, 0, 0, 0, 0, 0, 0, v⟩] : List StepD), OkS p) := by
          intro p hp
          simp at hp
          rcases hp with rfl | rfl
          · exact ⟨by simp, by simp⟩
          · exact ⟨t0, t1⟩
        go_wp2_with fail
        have aw : Below wr.heap.size wr (wr.alloc (.cells #[.int .i64 1, .int .i64 0, .int .i64 0, .int .i64 0, .int .i64 a0, .int .i64 b0, .int .i64 a1, .int .i64 b1, .int .u16 0, .int .u16 0, .int .u16 0, .int .u16 0, .int .u8 0, .int .i64 0, .int .i64 (i : Int), .int .i64 x, .int .i64 y, .int .i64 0, .int .i64 0, .int .i64 0, .int .i64 0, .int .u16 0, .int .u16 0, .int .u16 0, .int .u16 0, .int .u8 v] 61)) := (Below.refl _ _).alloc (Nat.le_refl _) _
        have HRr := Lib.hid ((hr.out.below hB).below aw)
        have HPr := Lib.hid ((pr.out.below hB).below aw)
        replace D0 := cell_kept D0 aw
        replace D1 := cell_kept D1 aw
        replace D2 := cell_kept D2 aw
        replace D3 := cell_kept D3 aw
        replace D4 := cell_kept D4 aw
        replace D5 := cell_kept D5 aw
        replace D6 := cell_kept D6 aw
        replace R0 := cell_kept R0 aw
        replace R1 := cell_kept R1 aw
        replace R2 := cell_kept R2 aw
        replace R3 := cell_kept R3 aw
        replace hB := hB.trans (aw.mono hB.size)
        clear aw HK
        generalize hzp : putS zs (kk + j) ⟨0, (i : Int), x, y, 0, 0, 0, 0, 0, 0, 0, 0, v⟩ = zp at HPL HPN HRUN
        clear hzp
        refine (implRun_any x0 y0 x1 y1 s A c zs B k ps (some ⟨wr.heap.size, 0, none⟩) 2 [⟨1, 0, 0, 0, a0, b0, a1, b1, 0, 0, 0, 0, 0⟩, ⟨0, (i : Int), x, y, 0, 0, 0, 0, 0, 0, 0, 0, v⟩] _ HRr hy hl hn HPr pl hF HST HOK (by simp) _ HRUN).mono ?_
        rintro e w5 ⟨go, oc, ds, rfl, hlen, hdeep, ⟨hcell, hread⟩, hb5⟩
        obtain ⟨dA, dB, rfl⟩ := list2 hlen
        obtain ⟨X0, Y0, X1, Y1, S1, A1, c1, z1, Q1, l1, ps1⟩ := dA
        obtain ⟨U0, V0', U1, V1', S2, A2, c2, z2, Q2, l2, ps2⟩ := dB
        have e1 := hdeep 0 _ _ rfl rfl
        have e2 := hdeep 1 _ _ rfl rfl
        unfold DeepOf at e1 e2
        rw [if_pos (Or.inl rfl)] at e1
        rw [if_pos (Or.inr rfl)] at e2
        obtain ⟨E1, E2, E3, E4, E5, E6, E7⟩ := e1
        obtain ⟨G1, G2, G3, G4, G5, G6, G7⟩ := e2
        obtain rfl : x0 = X0 := E1.symm
        obtain rfl : y0 = Y0 := E2.symm
        obtain rfl : x1 = X1 := E3.symm
        obtain rfl : y1 = Y1 := E4.symm
        obtain rfl : s = S1 := E5.symm
        obtain rfl : zp = z1 := E6.symm
        obtain rfl : ps = ps1 := E7.symm
        obtain rfl : C0 = U0 := G1.symm
        obtain rfl : C1 = V0' := G2.symm
        obtain rfl : C2 = U1 := G3.symm
        obtain rfl : C3 = V1' := G4.symm
        obtain rfl : s = S2 := G5.symm
        have G6' : zp.drop kk = z2 := G6.symm
        subst G6'
        obtain rfl : ps = ps2 := G7.symm
        clear E1 E2 E3 E4 E5 E6 E7 G1 G2 G3 G4 G5 G6 G7
        have HR1 := Lib.hid (hread _ (List.mem_cons_self ..))
        have HR2 := Lib.hid (hread _ (List.mem_cons_of_mem _ (List.mem_cons_self ..)))
        have HQN : Hid ((zp.drop kk).getD j 0 = v) := by unfold Hid; rw [getD_drop]; exact HPN.out
        have HQL : Hid ((zp.drop kk).length + kk = zs.length) := by unfold Hid; rw [List.length_drop, HPL.out]; have := HLE.out; omega
        have o0 : w5.cell? ⟨go, 0, none⟩ = some (.int .i64 x0) := hcell 0 _ rfl 0 _ rfl
        have o1 : w5.cell? ⟨go, 1, none⟩ = some (.int .i64 y0) := hcell 0 _ rfl 1 _ rfl
        have o2 : w5.cell? ⟨go, 2, none⟩ = some (.int .i64 x1) := hcell 0 _ rfl 2 _ rfl
        have o3 : w5.cell? ⟨go, 3, none⟩ = some (.int .i64 y1) := hcell 0 _ rfl 3 _ rfl
        have o4 : w5.cell? ⟨go, 4, none⟩ = some (.int .i64 s) := hcell 0 _ rfl 4 _ rfl
        have o5 : w5.cell? ⟨go, 5, none⟩ = some (.slice A1 zp.length c1) := hcell 0 _ rfl 5 _ rfl
        have o6 : w5.cell? ⟨go, 6, none⟩ = some (.slice Q1 ps.length l1) := hcell 0 _ rfl 6 _ rfl
        generalize hzq : zp.drop kk = zq at *
        clear hzq
        have o7 : w5.cell? ⟨go, 7, none⟩ = some (.int .i64 C0) := hcell 1 _ rfl 0 _ rfl
        have o8 : w5.cell? ⟨go, 8, none⟩ = some (.int .i64 C1) := hcell 1 _ rfl 1 _ rfl
        have o9 : w5.cell? ⟨go, 9, none⟩ = some (.int .i64 C2) := hcell 1 _ rfl 2 _ rfl
        have o10 : w5.cell? ⟨go, 10, none⟩ = some (.int .i64 C3) := hcell 1 _ rfl 3 _ rfl
        have o11 : w5.cell? ⟨go, 11, none⟩ = some (.int .i64 s) := hcell 1 _ rfl 4 _ rfl
        have o12 : w5.cell? ⟨go, 12, none⟩ = some (.slice A2 zq.length c2) := hcell 1 _ rfl 5 _ rfl
        have o13 : w5.cell? ⟨go, 13, none⟩ = some (.slice Q2 ps.length l2) := hcell 1 _ rfl 6 _ rfl
        clear hcell hread hdeep
        replace D0 := cell_kept D0 hb5
        replace D1 := cell_kept D1 hb5
        replace D2 := cell_kept D2 hb5
        replace D3 := cell_kept D3 hb5
        replace D4 := cell_kept D4 hb5
        replace D5 := cell_kept D5 hb5
        replace D6 := cell_kept D6 hb5
        replace R0 := cell_kept R0 hb5
        replace R1 := cell_kept R1 hb5
        replace R2 := cell_kept R2 hb5
        replace R3 := cell_kept R3 hb5
        replace hB := hB.trans (hb5.mono hB.size)
        clear hb5
        have HFp : Hid (Fits x0 y0 x1 y1 s 1 zp.length) := by unfold Hid; rw [HPL.out]; exact hF.out
        have HFq : Hid (Fits C0 C1 C2 C3 s 1 zq.length) := by unfold Hid; have h1 := HF2.out; have h2 := HQL.out; rw [show zs.length - kk = zq.length by omega] at h1; exact h1
        have hlp : Small zp := by unfold Small at *; rw [HPL.out]; exact hl
        have hlq : Small zq := by unfold Small at *; have := HQL.out; omega
        have hI2 : Hid (Insd x0 y0 x1 y1 x y) := hW.out.insd hI.out
        obtain ⟨g1, g2, g3, g4⟩ := near_point HFp.out hI2.out
        obtain ⟨f1, f2, f3, f4⟩ := near_point HFq.out hI.out
        obtain ⟨p1, p2⟩ : -2305843009213693952 ≤ (y - y0) * s ∧ (y - y0) * s ≤ 2305843009213693952 := (by have := HFp.out.prods hI2.out; omega)
        obtain ⟨p3, p4⟩ : -2305843009213693952 ≤ (y - C1) * s ∧ (y - C1) * s ≤ 2305843009213693952 := (by have := HFq.out.prods hI.out; omega)
        have Hk1 : kk + j < zp.length := by rw [HPL.out]; have := HLE.out; omega
        have Hk2 : j < zq.length := by have := HLE.out; have := HQL.out; omega
        clear HRr HPr HST HRUN
        have HA1 : Hid (Reads w5 A1 zp) := HR1.out.1
        have HB1 : Hid (PReads w5 Q1 ps) := HR1.out.2.2
        have HC1 := Lib.hid HR1.out.2.1
        have HA2 : Hid (Reads w5 A2 zq) := HR2.out.1
        have HB2 : Hid (PReads w5 Q2 ps) := HR2.out.2.2
        have HC2 := Lib.hid HR2.out.2.1
        clear HR1 HR2
        go_wp2_with fail
        refine (implIndex_in x0 y0 x1 y1 s A1 c1 zp Q1 l1 ps x y _ HA1 hlp HC1 HB1 pl (kk + j) v hI2 g1 g2 g3 g4 p1 p2 HKJ Hk1 HPN).mono ?_
        rintro e w11 ⟨rfl, hb11⟩
        replace D0 := cell_kept D0 hb11
        replace D1 := cell_kept D1 hb11
        replace D2 := cell_kept D2 hb11
        replace D3 := cell_kept D3 hb11
        replace D4 := cell_kept D4 hb11
        replace D5 := cell_kept D5 hb11
        replace D6 := cell_kept D6 hb11
        replace R0 := cell_kept R0 hb11
        replace R1 := cell_kept R1 hb11
        replace R2 := cell_kept R2 hb11
        replace R3 := cell_kept R3 hb11
        replace o0 := cell_kept o0 hb11
        replace o1 := cell_kept o1 hb11
        replace o2 := cell_kept o2 hb11
        replace o3 := cell_kept o3 hb11
        replace o4 := cell_kept o4 hb11
        replace o5 := cell_kept o5 hb11
        replace o6 := cell_kept o6 hb11
        replace o7 := cell_kept o7 hb11
        replace o8 := cell_kept o8 hb11
        replace o9 := cell_kept o9 hb11
        replace o10 := cell_kept o10 hb11
        replace o11 := cell_kept o11 hb11
        replace o12 := cell_kept o12 hb11
        replace o13 := cell_kept o13 hb11
        replace HA1 := Lib.hid (HA1.out.below hb11)
        replace HA2 := Lib.hid (HA2.out.below hb11)
        replace HB1 := Lib.hid (HB1.out.below hb11)
        replace HB2 := Lib.hid (HB2.out.below hb11)
        replace hB := hB.trans (hb11.mono hB.size)
        clear hb11
        go_wp2_with fail
        refine (implIndex_in C0 C1 C2 C3 s A2 c2 zq Q2 l2 ps x y _ HA2 hlq HC2 HB2 pl j v hI f1 f2 f3 f4 p3 p4 HJ Hk2 HQN).mono ?_
        rintro e w12 ⟨rfl, hb12⟩
        replace D0 := cell_kept D0 hb12
        replace D1 := cell_kept D1 hb12
        replace D2 := cell_kept D2 hb12
        replace D3 := cell_kept D3 hb12
        replace D4 := cell_kept D4 hb12
        replace D5 := cell_kept D5 hb12
        replace D6 := cell_kept D6 hb12
        replace R0 := cell_kept R0 hb12
        replace R1 := cell_kept R1 hb12
        replace R2 := cell_kept R2 hb12
        replace R3 := cell_kept R3 hb12
        replace o0 := cell_kept o0 hb12
        replace o1 := cell_kept o1 hb12
        replace o2 := cell_kept o2 hb12
        replace o3 := cell_kept o3 hb12
        replace o4 := cell_kept o4 hb12
        replace o5 := cell_kept o5 hb12
        replace o6 := cell_kept o6 hb12
        replace o7 := cell_kept o7 hb12
        replace o8 := cell_kept o8 hb12
        replace o9 := cell_kept o9 hb12
        replace o10 := cell_kept o10 hb12
        replace o11 := cell_kept o11 hb12
        replace o12 := cell_kept o12 hb12
        replace o13 := cell_kept o13 hb12
        replace HA1 := Lib.hid (HA1.out.below hb12)
        replace HA2 := Lib.hid (HA2.out.below hb12)
        replace HB1 := Lib.hid (HB1.out.below hb12)
        replace HB2 := Lib.hid (HB2.out.below hb12)
        replace hB := hB.trans (hb12.mono hB.size)
        clear hb12
        have HK2 := Lib.hid (⟨hB, D0, D1, D2, D3, D4, D5, D6, R0, R1, R2, R3⟩ : Below w.heap.size w w12 ∧ w12.cell? ⟨w.heap.size, 0, none⟩ = some (.int .i64 x0) ∧ w12.cell? ⟨w.heap.size, 1, none⟩ = some (.int .i64 y0) ∧ w12.cell? ⟨w.heap.size, 2, none⟩ = some (.int .i64 x1) ∧ w12.cell? ⟨w.heap.size, 3, none⟩ = some (.int .i64 y1) ∧ w12.cell? ⟨w.heap.size, 4, none⟩ = some (.int .i64 s) ∧ w12.cell? ⟨w.heap.size, 5, none⟩ = some (.slice A zs.length c) ∧ w12.cell? ⟨w.heap.size, 6, none⟩ = some (.slice B ps.length k) ∧ w12.cell? ⟨br, 0, none⟩ = some (.int .i64 a0) ∧ w12.cell? ⟨br, 1, none⟩ = some (.int .i64 b0) ∧ w12.cell? ⟨br, 2, none⟩ = some (.int .i64 a1) ∧ w12.cell? ⟨br, 3, none⟩ = some (.int .i64 b1))
        go_wp2
        go_roundw
        case rel => exact ⟨i + 1, by omega, by go_num, HK2⟩
        case measure => simp [intOf]; omega
      · have hi3 : ¬ (i : Int) < 2 := by omega
        go_wp2
        go_ret
        exact ⟨by simp, hB⟩

theorem walk_subShares (x0 y0 x1 y1 s : Int) (A : Option Addr) (c : Nat) (zs : List Int) (B : Option Addr) (k : Nat) (ps : List (Int × Int × Int × Int)) (a0 b0 a1 b1 x y v : Int) (w : World) (hr : Hid (Reads w A zs)) (hy : Hid (Bytes zs)) (hl : Small zs) (hn : Hid (A = none → c = 0)) (pr : Hid (PReads w B ps)) (pl : (ps.length : Int) ≤ 2097152) (t0 : 0 ≤ v) (t1 : v ≤ 255) :
    Calls Try.prog 14 #[.agg #[.int .i64 x0, .int .i64 y0, .int .i64 x1, .int .i64 y1, .int .i64 s, .slice A zs.length c, .slice B ps.length k], .agg #[.int .i64 a0, .int .i64 b0, .int .i64 a1, .int .i64 b1], .int .i64 x, .int .i64 y, .int .u8 v] w fun e w' => e = .returned (.bool true) ∧ Below w.heap.size w w' := by
  obtain ⟨C0, C1, C2, C3, cb, hC⟩ := com_of x0 y0 x1 y1 a0 b0 a1 b1
  by_cases hF : Fits x0 y0 x1 y1 s 1 zs.length
  · by_cases hN : Near4 a0 b0 a1 b1
    · rcases id hC with ⟨⟨h1, h2⟩, h3, h4, h5, h6, h7⟩ | ⟨_, _, _, _, _, h7⟩
      · by_cases hI : Insd C0 C1 C2 C3 x y
        · exact sh_in x0 y0 x1 y1 s A c zs B k ps a0 b0 a1 b1 x y v w hr hy hl hn pr pl t0 t1 C0 C1 C2 C3 cb hC hF hN h7 hI h3.symm h4.symm h5.symm h6.symm h1 h2
        · exact sh_out x0 y0 x1 y1 s A c zs B k ps a0 b0 a1 b1 x y v w hr hy hl hn pr pl t0 t1 C0 C1 C2 C3 cb hC hF hN h7 hI
      · exact sh_none x0 y0 x1 y1 s A c zs B k ps a0 b0 a1 b1 x y v w hr hy hl hn pr pl t0 t1 C0 C1 C2 C3 cb hC hF hN h7
    · exact sh_far x0 y0 x1 y1 s A c zs B k ps a0 b0 a1 b1 x y v w hr hy hl hn pr pl t0 t1 C0 C1 C2 C3 cb hC hF hN
  · exact sh_unfit x0 y0 x1 y1 s A c zs B k ps a0 b0 a1 b1 x y v w hr hy hl hn pr pl t0 t1 C0 C1 C2 C3 cb hC hF

end Go.Proofs.Ytkhgobeeaiagfaa
