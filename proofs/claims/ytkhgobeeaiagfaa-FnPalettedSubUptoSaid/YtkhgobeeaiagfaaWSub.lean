/- The walk of the law FnPalettedSub. -/
import Derived.Test.YtkhgobeeaiagfaaSubQ
import Derived.Test.YtkhgobeeaiagfaaCut
namespace Go.Proofs.Ytkhgobeeaiagfaa
open Go.RowKit
set_option linter.unusedVariables false
set_option linter.unusedSimpArgs false


set_option maxRecDepth 100000 in
set_option maxHeartbeats 2000000 in
theorem sub_unfit (x0 y0 x1 y1 s : Int) (A : Option Addr) (c : Nat) (zs : List Int) (B : Option Addr) (k : Nat) (ps : List (Int × Int × Int × Int)) (a0 b0 a1 b1 x y : Int) (w : World) (hr : Hid (Reads w A zs)) (hl : Small zs) (hn : Hid (A = none → c = 0)) (pr : Hid (PReads w B ps)) (pl : (ps.length : Int) ≤ 2097152) (hF : Hid (¬ Fits x0 y0 x1 y1 s 1 zs.length)) :
    Calls Try.prog 12 #[.agg #[.int .i64 x0, .int .i64 y0, .int .i64 x1, .int .i64 y1, .int .i64 s, .slice A zs.length c, .slice B ps.length k], .agg #[.int .i64 a0, .int .i64 b0, .int .i64 a1, .int .i64 b1], .int .i64 x, .int .i64 y] w fun e w' => e = .returned (.bool true) ∧ Below w.heap.size w w' := by
  have hB : Below w.heap.size w ((w.alloc (.cells #[.int .i64 x0, .int .i64 y0, .int .i64 x1, .int .i64 y1, .int .i64 s, .slice A zs.length c, .slice B ps.length k] 27)).alloc (.cells #[.int .i64 a0, .int .i64 b0, .int .i64 a1, .int .i64 b1] 23)) := ((Below.refl _ _).alloc (Nat.le_refl _) _).alloc (by simp) _
  have D0 : ((w.alloc (.cells #[.int .i64 x0, .int .i64 y0, .int .i64 x1, .int .i64 y1, .int .i64 s, .slice A zs.length c, .slice B ps.length k] 27)).alloc (.cells #[.int .i64 a0, .int .i64 b0, .int .i64 a1, .int .i64 b1] 23)).cell? ⟨w.heap.size, 0, none⟩ = some (.int .i64 x0) := by first | (simp; done) | go_simp
  have D1 : ((w.alloc (.cells #[.int .i64 x0, .int .i64 y0, .int .i64 x1, .int .i64 y1, .int .i64 s, .slice A zs.length c, .slice B ps.length k] 27)).alloc (.cells #[.int .i64 a0, .int .i64 b0, .int .i64 a1, .int .i64 b1] 23)).cell? ⟨w.heap.size, 1, none⟩ = some (.int .i64 y0) := by first | (simp; done) | go_simp
  have D2 : ((w.alloc (.cells #[.int .i64 x0, .int .i64 y0, .int .i64 x1, .int .i64 y1, .int .i64 s, .slice A zs.length c, .slice B ps.length k] 27)).alloc (.cells #[.int .i64 a0, .int .i64 b0, .int .i64 a1, .int .i64 b1] 23)).cell? ⟨w.heap.size, 2, none⟩ = some (.int .i64 x1) := by first | (simp; done) | go_simp
  have D3 : ((w.alloc (.cells #[.int .i64 x0, .int .i64 y0, .int .i64 x1, .int .i64 y1, .int .i64 s, .slice A zs.length c, .slice B ps.length k] 27)).alloc (.cells #[.int .i64 a0, .int .i64 b0, .int .i64 a1, .int .i64 b1] 23)).cell? ⟨w.heap.size, 3, none⟩ = some (.int .i64 y1) := by first | (simp; done) | go_simp
  have D4 : ((w.alloc (.cells #[.int .i64 x0, .int .i64 y0, .int .i64 x1, .int .i64 y1, .int .i64 s, .slice A zs.length c, .slice B ps.length k] 27)).alloc (.cells #[.int .i64 a0, .int .i64 b0, .int .i64 a1, .int .i64 b1] 23)).cell? ⟨w.heap.size, 4, none⟩ = some (.int .i64 s) := by first | (simp; done) | go_simp
  have D5 : ((w.alloc (.cells #[.int .i64 x0, .int .i64 y0, .int .i64 x1, .int .i64 y1, .int .i64 s, .slice A zs.length c, .slice B ps.length k] 27)).alloc (.cells #[.int .i64 a0, .int .i64 b0, .int .i64 a1, .int .i64 b1] 23)).cell? ⟨w.heap.size, 5, none⟩ = some (.slice A zs.length c) := by first | (simp; done) | go_simp
  have D6 : ((w.alloc (.cells #[.int .i64 x0, .int .i64 y0, .int .i64 x1, .int .i64 y1, .int .i64 s, .slice A zs.length c, .slice B ps.length k] 27)).alloc (.cells #[.int .i64 a0, .int .i64 b0, .int .i64 a1, .int .i64 b1] 23)).cell? ⟨w.heap.size, 6, none⟩ = some (.slice B ps.length k) := by first | (simp; done) | go_simp
  have R0 : ((w.alloc (.cells #[.int .i64 x0, .int .i64 y0, .int .i64 x1, .int .i64 y1, .int .i64 s, .slice A zs.length c, .slice B ps.length k] 27)).alloc (.cells #[.int .i64 a0, .int .i64 b0, .int .i64 a1, .int .i64 b1] 23)).cell? ⟨w.heap.size + 1, 0, none⟩ = some (.int .i64 a0) := by first | (simp; done) | go_simp
  have R1 : ((w.alloc (.cells #[.int .i64 x0, .int .i64 y0, .int .i64 x1, .int .i64 y1, .int .i64 s, .slice A zs.length c, .slice B ps.length k] 27)).alloc (.cells #[.int .i64 a0, .int .i64 b0, .int .i64 a1, .int .i64 b1] 23)).cell? ⟨w.heap.size + 1, 1, none⟩ = some (.int .i64 b0) := by first | (simp; done) | go_simp
  have R2 : ((w.alloc (.cells #[.int .i64 x0, .int .i64 y0, .int .i64 x1, .int .i64 y1, .int .i64 s, .slice A zs.length c, .slice B ps.length k] 27)).alloc (.cells #[.int .i64 a0, .int .i64 b0, .int .i64 a1, .int .i64 b1] 23)).cell? ⟨w.heap.size + 1, 2, none⟩ = some (.int .i64 a1) := by first | (simp; done) | go_simp
  have R3 : ((w.alloc (.cells #[.int .i64 x0, .int .i64 y0, .int .i64 x1, .int .i64 y1, .int .i64 s, .slice A zs.length c, .slice B ps.length k] 27)).alloc (.cells #[.int .i64 a0, .int .i64 b0, .int .i64 a1, .int .i64 b1] 23)).cell? ⟨w.heap.size + 1, 3, none⟩ = some (.int .i64 b1) := by first | (simp; done) | go_simp
  have HR := Lib.hid (hr.out.below hB)
  have HP := Lib.hid (pr.out.below hB)
  go_enter Try.func12, Try.ntmps12
  go_wp2_with fail
  generalize (w.alloc (.cells #[.int .i64 x0, .int .i64 y0, .int .i64 x1, .int .i64 y1, .int .i64 s, .slice A zs.length c, .slice B ps.length k] 27)).alloc (.cells #[.int .i64 a0, .int .i64 b0, .int .i64 a1, .int .i64 b1] 23) = W0 at *
  generalize w.heap.size + 1 = br at *
  refine (fitsK_any x0 y0 x1 y1 s A c zs B k ps false (by simp [hF.out]) _).mono ?_
  rintro e w1 ⟨rfl, hb1⟩
  replace D0 := cell_kept D0 hb1
  replace D1 := cell_kept D1 hb1
  replace D2 := cell_kept D2 hb1
  replace D3 := cell_kept D3 hb1
  replace D4 := cell_kept D4 hb1
  replace D5 := cell_kept D5 hb1
  replace D6 := cell_kept D6 hb1
  replace R0 := cell_kept R0 hb1
  replace R1 := cell_kept R1 hb1
  replace R2 := cell_kept R2 hb1
  replace R3 := cell_kept R3 hb1
  replace HR := Lib.hid (HR.out.below hb1)
  replace HP := Lib.hid (HP.out.below hb1)
  replace hB := hB.trans (hb1.mono hB.size)
  clear hb1
  go_wp2
  go_ret
  exact ⟨by simp, hB⟩

set_option maxRecDepth 100000 in
set_option maxHeartbeats 2000000 in
theorem sub_far (x0 y0 x1 y1 s : Int) (A : Option Addr) (c : Nat) (zs : List Int) (B : Option Addr) (k : Nat) (ps : List (Int × Int × Int × Int)) (a0 b0 a1 b1 x y : Int) (w : World) (hr : Hid (Reads w A zs)) (hl : Small zs) (hn : Hid (A = none → c = 0)) (pr : Hid (PReads w B ps)) (pl : (ps.length : Int) ≤ 2097152) (hF : Hid (Fits x0 y0 x1 y1 s 1 zs.length)) (hN : Hid (¬ Near4 a0 b0 a1 b1)) :
    Calls Try.prog 12 #[.agg #[.int .i64 x0, .int .i64 y0, .int .i64 x1, .int .i64 y1, .int .i64 s, .slice A zs.length c, .slice B ps.length k], .agg #[.int .i64 a0, .int .i64 b0, .int .i64 a1, .int .i64 b1], .int .i64 x, .int .i64 y] w fun e w' => e = .returned (.bool true) ∧ Below w.heap.size w w' := by
  have hB : Below w.heap.size w ((w.alloc (.cells #[.int .i64 x0, .int .i64 y0, .int .i64 x1, .int .i64 y1, .int .i64 s, .slice A zs.length c, .slice B ps.length k] 27)).alloc (.cells #[.int .i64 a0, .int .i64 b0, .int .i64 a1, .int .i64 b1] 23)) := ((Below.refl _ _).alloc (Nat.le_refl _) _).alloc (by simp) _
  have D0 : ((w.alloc (.cells #[.int .i64 x0, .int .i64 y0, .int .i64 x1, .int .i64 y1, .int .i64 s, .slice A zs.length c, .slice B ps.length k] 27)).alloc (.cells #[.int .i64 a0, .int .i64 b0, .int .i64 a1, .int .i64 b1] 23)).cell? ⟨w.heap.size, 0, none⟩ = some (.int .i64 x0) := by first | (simp; done) | go_simp
  have D1 : ((w.alloc (.cells #[.int .i64 x0, .int .i64 y0, .int .i64 x1, .int .i64 y1, .int .i64 s, .slice A zs.length c, .slice B ps.length k] 27)).alloc (.cells #[.int .i64 a0, .int .i64 b0, .int .i64 a1, .int .i64 b1] 23)).cell? ⟨w.heap.size, 1, none⟩ = some (.int .i64 y0) := by first | (simp; done) | go_simp
  have D2 : ((w.alloc (.cells #[.int .i64 x0, .int .i64 y0, .int .i64 x1, .int .i64 y1, .int .i64 s, .slice A zs.length c, .slice B ps.length k] 27)).alloc (.cells #[.int .i64 a0, .int .i64 b0, .int .i64 a1, .int .i64 b1] 23)).cell? ⟨w.heap.size, 2, none⟩ = some (.int .i64 x1) := by first | (simp; done) | go_simp
  have D3 : ((w.alloc (.cells #[.int .i64 x0, .int .i64 y0, .int .i64 x1, .int .i64 y1, .int .i64 s, .slice A zs.length c, .slice B ps.length k] 27)).alloc (.cells #[.int .i64 a0, .int .i64 b0, .int .i64 a1, .int .i64 b1] 23)).cell? ⟨w.heap.size, 3, none⟩ = some (.int .i64 y1) := by first | (simp; done) | go_simp
  have D4 : ((w.alloc (.cells #[.int .i64 x0, .int .i64 y0, .int .i64 x1, .int .i64 y1, .int .i64 s, .slice A zs.length c, .slice B ps.length k] 27)).alloc (.cells #[.int .i64 a0, .int .i64 b0, .int .i64 a1, .int .i64 b1] 23)).cell? ⟨w.heap.size, 4, none⟩ = some (.int .i64 s) := by first | (simp; done) | go_simp
  have D5 : ((w.alloc (.cells #[.int .i64 x0, .int .i64 y0, .int .i64 x1, .int .i64 y1, .int .i64 s, .slice A zs.length c, .slice B ps.length k] 27)).alloc (.cells #[.int .i64 a0, .int .i64 b0, .int .i64 a1, .int .i64 b1] 23)).cell? ⟨w.heap.size, 5, none⟩ = some (.slice A zs.length c) := by first | (simp; done) | go_simp
  have D6 : ((w.alloc (.cells #[.int .i64 x0, .int .i64 y0, .int .i64 x1, .int .i64 y1, .int .i64 s, .slice A zs.length c, .slice B ps.length k] 27)).alloc (.cells #[.int .i64 a0, .int .i64 b0, .int .i64 a1, .int .i64 b1] 23)).cell? ⟨w.heap.size, 6, none⟩ = some (.slice B ps.length k) := by first | (simp; done) | go_simp
  have R0 : ((w.alloc (.cells #[.int .i64 x0, .int .i64 y0, .int .i64 x1, .int .i64 y1, .int .i64 s, .slice A zs.length c, .slice B ps.length k] 27)).alloc (.cells #[.int .i64 a0, .int .i64 b0, .int .i64 a1, .int .i64 b1] 23)).cell? ⟨w.heap.size + 1, 0, none⟩ = some (.int .i64 a0) := by first | (simp; done) | go_simp
  have R1 : ((w.alloc (.cells #[.int .i64 x0, .int .i64 y0, .int .i64 x1, .int .i64 y1, .int .i64 s, .slice A zs.length c, .slice B ps.length k] 27)).alloc (.cells #[.int .i64 a0, .int .i64 b0, .int .i64 a1, .int .i64 b1] 23)).cell? ⟨w.heap.size + 1, 1, none⟩ = some (.int .i64 b0) := by first | (simp; done) | go_simp
  have R2 : ((w.alloc (.cells #[.int .i64 x0, .int .i64 y0, .int .i64 x1, .int .i64 y1, .int .i64 s, .slice A zs.length c, .slice B ps.length k] 27)).alloc (.cells #[.int .i64 a0, .int .i64 b0, .int .i64 a1, .int .i64 b1] 23)).cell? ⟨w.heap.size + 1, 2, none⟩ = some (.int .i64 a1) := by first | (simp; done) | go_simp
  have R3 : ((w.alloc (.cells #[.int .i64 x0, .int .i64 y0, .int .i64 x1, .int .i64 y1, .int .i64 s, .slice A zs.length c, .slice B ps.length k] 27)).alloc (.cells #[.int .i64 a0, .int .i64 b0, .int .i64 a1, .int .i64 b1] 23)).cell? ⟨w.heap.size + 1, 3, none⟩ = some (.int .i64 b1) := by first | (simp; done) | go_simp
  have HR := Lib.hid (hr.out.below hB)
  have HP := Lib.hid (pr.out.below hB)
  go_enter Try.func12, Try.ntmps12
  go_wp2_with fail
  generalize (w.alloc (.cells #[.int .i64 x0, .int .i64 y0, .int .i64 x1, .int .i64 y1, .int .i64 s, .slice A zs.length c, .slice B ps.length k] 27)).alloc (.cells #[.int .i64 a0, .int .i64 b0, .int .i64 a1, .int .i64 b1] 23) = W0 at *
  generalize w.heap.size + 1 = br at *
  refine (fitsK_any x0 y0 x1 y1 s A c zs B k ps true (by simp [hF.out]) _).mono ?_
  rintro e w1 ⟨rfl, hb1⟩
  replace D0 := cell_kept D0 hb1
  replace D1 := cell_kept D1 hb1
  replace D2 := cell_kept D2 hb1
  replace D3 := cell_kept D3 hb1
  replace D4 := cell_kept D4 hb1
  replace D5 := cell_kept D5 hb1
  replace D6 := cell_kept D6 hb1
  replace R0 := cell_kept R0 hb1
  replace R1 := cell_kept R1 hb1
  replace R2 := cell_kept R2 hb1
  replace R3 := cell_kept R3 hb1
  replace HR := Lib.hid (HR.out.below hb1)
  replace HP := Lib.hid (HP.out.below hb1)
  replace hB := hB.trans (hb1.mono hB.size)
  clear hb1
  go_wp2_with fail
  refine (box_any a0 b0 a1 b1 _).mono ?_
  rintro e w2 ⟨rfl, hb2⟩
  replace D0 := cell_kept D0 hb2
  replace D1 := cell_kept D1 hb2
  replace D2 := cell_kept D2 hb2
  replace D3 := cell_kept D3 hb2
  replace D4 := cell_kept D4 hb2
  replace D5 := cell_kept D5 hb2
  replace D6 := cell_kept D6 hb2
  replace R0 := cell_kept R0 hb2
  replace R1 := cell_kept R1 hb2
  replace R2 := cell_kept R2 hb2
  replace R3 := cell_kept R3 hb2
  replace HR := Lib.hid (HR.out.below hb2)
  replace HP := Lib.hid (HP.out.below hb2)
  replace hB := hB.trans (hb2.mono hB.size)
  clear hb2
  go_wp2_with fail
  refine (near4_any a0 b0 a1 b1 false (by simp [hN.out]) _).mono ?_
  rintro e w3 ⟨rfl, hb3⟩
  replace D0 := cell_kept D0 hb3
  replace D1 := cell_kept D1 hb3
  replace D2 := cell_kept D2 hb3
  replace D3 := cell_kept D3 hb3
  replace D4 := cell_kept D4 hb3
  replace D5 := cell_kept D5 hb3
  replace D6 := cell_kept D6 hb3
  replace R0 := cell_kept R0 hb3
  replace R1 := cell_kept R1 hb3
  replace R2 := cell_kept R2 hb3
  replace R3 := cell_kept R3 hb3
  replace HR := Lib.hid (HR.out.below hb3)
  replace HP := Lib.hid (HP.out.below hb3)
  replace hB := hB.trans (hb3.mono hB.size)
  clear hb3
  go_wp2
  go_ret
  exact ⟨by simp, hB⟩

set_option maxRecDepth 100000 in
set_option maxHeartbeats 2000000 in
theorem sub_none (x0 y0 x1 y1 s : Int) (A : Option Addr) (c : Nat) (zs : List Int) (B : Option Addr) (k : Nat) (ps : List (Int × Int × Int × Int)) (a0 b0 a1 b1 x y : Int) (w : World) (hr : Hid (Reads w A zs)) (hl : Small zs) (hn : Hid (A = none → c = 0)) (pr : Hid (PReads w B ps)) (pl : (ps.length : Int) ≤ 2097152) (hF : Hid (Fits x0 y0 x1 y1 s 1 zs.length)) (hN : Hid (Near4 a0 b0 a1 b1)) (hE : Hid (min x1 a1 ≤ max x0 a0 ∨ min y1 b1 ≤ max y0 b0)) :
    Calls Try.prog 12 #[.agg #[.int .i64 x0, .int .i64 y0, .int .i64 x1, .int .i64 y1, .int .i64 s, .slice A zs.length c, .slice B ps.length k], .agg #[.int .i64 a0, .int .i64 b0, .int .i64 a1, .int .i64 b1], .int .i64 x, .int .i64 y] w fun e w' => e = .returned (.bool true) ∧ Below w.heap.size w w' := by
  have hB : Below w.heap.size w ((w.alloc (.cells #[.int .i64 x0, .int .i64 y0, .int .i64 x1, .int .i64 y1, .int .i64 s, .slice A zs.length c, .slice B ps.length k] 27)).alloc (.cells #[.int .i64 a0, .int .i64 b0, .int .i64 a1, .int .i64 b1] 23)) := ((Below.refl _ _).alloc (Nat.le_refl _) _).alloc (by simp) _
  have D0 : ((w.alloc (.cells #[.int .i64 x0, .int .i64 y0, .int .i64 x1, .int .i64 y1, .int .i64 s, .slice A zs.length c, .slice B ps.length k] 27)).alloc (.cells #[.int .i64 a0, .int .i64 b0, .int .i64 a1, .int .i64 b1] 23)).cell? ⟨w.heap.size, 0, none⟩ = some (.int .i64 x0) := by first | (simp; done) | go_simp
  have D1 : ((w.alloc (.cells #[.int .i64 x0, .int .i64 y0, .int .i64 x1, .int .i64 y1, .int .i64 s, .slice A zs.length c, .slice B ps.length k] 27)).alloc (.cells #[.int .i64 a0, .int .i64 b0, .int .i64 a1, .int .i64 b1] 23)).cell? ⟨w.heap.size, 1, none⟩ = some (.int .i64 y0) := by first | (simp; done) | go_simp
  have D2 : ((w.alloc (.cells #[.int .i64 x0, .int .i64 y0, .int .i64 x1, .int .i64 y1, .int .i64 s, .slice A zs.length c, .slice B ps.length k] 27)).alloc (.cells #[.int .i64 a0, .int .i64 b0, .int .i64 a1, .int .i64 b1] 23)).cell? ⟨w.heap.size, 2, none⟩ = some (.int .i64 x1) := by first | (simp; done) | go_simp
  have D3 : ((w.alloc (.cells #[.int .i64 x0, .int .i64 y0, .int .i64 x1, .int .i64 y1, .int .i64 s, .slice A zs.length c, .slice B ps.length k] 27)).alloc (.cells #[.int .i64 a0, .int .i64 b0, .int .i64 a1, .int .i64 b1] 23)).cell? ⟨w.heap.size, 3, none⟩ = some (.int .i64 y1) := by first | (simp; done) | go_simp
  have D4 : ((w.alloc (.cells #[.int .i64 x0, .int .i64 y0, .int .i64 x1, .int .i64 y1, .int .i64 s, .slice A zs.length c, .slice B ps.length k] 27)).alloc (.cells #[.int .i64 a0, .int .i64 b0, .int .i64 a1, .int .i64 b1] 23)).cell? ⟨w.heap.size, 4, none⟩ = some (.int .i64 s) := by first | (simp; done) | go_simp
  have D5 : ((w.alloc (.cells #[.int .i64 x0, .int .i64 y0, .int .i64 x1, .int .i64 y1, .int .i64 s, .slice A zs.length c, .slice B ps.length k] 27)).alloc (.cells #[.int .i64 a0, .int .i64 b0, .int .i64 a1, .int .i64 b1] 23)).cell? ⟨w.heap.size, 5, none⟩ = some (.slice A zs.length c) := by first | (simp; done) | go_simp
  have D6 : ((w.alloc (.cells #[.int .i64 x0, .int .i64 y0, .int .i64 x1, .int .i64 y1, .int .i64 s, .slice A zs.length c, .slice B ps.length k] 27)).alloc (.cells #[.int .i64 a0, .int .i64 b0, .int .i64 a1, .int .i64 b1] 23)).cell? ⟨w.heap.size, 6, none⟩ = some (.slice B ps.length k) := by first | (simp; done) | go_simp
  have R0 : ((w.alloc (.cells #[.int .i64 x0, .int .i64 y0, .int .i64 x1, .int .i64 y1, .int .i64 s, .slice A zs.length c, .slice B ps.length k] 27)).alloc (.cells #[.int .i64 a0, .int .i64 b0, .int .i64 a1, .int .i64 b1] 23)).cell? ⟨w.heap.size + 1, 0, none⟩ = some (.int .i64 a0) := by first | (simp; done) | go_simp
  have R1 : ((w.alloc (.cells #[.int .i64 x0, .int .i64 y0, .int .i64 x1, .int .i64 y1, .int .i64 s, .slice A zs.length c, .slice B ps.length k] 27)).alloc (.cells #[.int .i64 a0, .int .i64 b0, .int .i64 a1, .int .i64 b1] 23)).cell? ⟨w.heap.size + 1, 1, none⟩ = some (.int .i64 b0) := by first | (simp; done) | go_simp
  have R2 : ((w.alloc (.cells #[.int .i64 x0, .int .i64 y0, .int .i64 x1, .int .i64 y1, .int .i64 s, .slice A zs.length c, .slice B ps.length k] 27)).alloc (.cells #[.int .i64 a0, .int .i64 b0, .int .i64 a1, .int .i64 b1] 23)).cell? ⟨w.heap.size + 1, 2, none⟩ = some (.int .i64 a1) := by first | (simp; done) | go_simp
  have R3 : ((w.alloc (.cells #[.int .i64 x0, .int .i64 y0, .int .i64 x1, .int .i64 y1, .int .i64 s, .slice A zs.length c, .slice B ps.length k] 27)).alloc (.cells #[.int .i64 a0, .int .i64 b0, .int .i64 a1, .int .i64 b1] 23)).cell? ⟨w.heap.size + 1, 3, none⟩ = some (.int .i64 b1) := by first | (simp; done) | go_simp
  have HR := Lib.hid (hr.out.below hB)
  have HP := Lib.hid (pr.out.below hB)
  go_enter Try.func12, Try.ntmps12
  go_wp2_with fail
  generalize (w.alloc (.cells #[.int .i64 x0, .int .i64 y0, .int .i64 x1, .int .i64 y1, .int .i64 s, .slice A zs.length c, .slice B ps.length k] 27)).alloc (.cells #[.int .i64 a0, .int .i64 b0, .int .i64 a1, .int .i64 b1] 23) = W0 at *
  generalize w.heap.size + 1 = br at *
  refine (fitsK_any x0 y0 x1 y1 s A c zs B k ps true (by simp [hF.out]) _).mono ?_
  rintro e w1 ⟨rfl, hb1⟩
  replace D0 := cell_kept D0 hb1
  replace D1 := cell_kept D1 hb1
  replace D2 := cell_kept D2 hb1
  replace D3 := cell_kept D3 hb1
  replace D4 := cell_kept D4 hb1
  replace D5 := cell_kept D5 hb1
  replace D6 := cell_kept D6 hb1
  replace R0 := cell_kept R0 hb1
  replace R1 := cell_kept R1 hb1
  replace R2 := cell_kept R2 hb1
  replace R3 := cell_kept R3 hb1
  replace HR := Lib.hid (HR.out.below hb1)
  replace HP := Lib.hid (HP.out.below hb1)
  replace hB := hB.trans (hb1.mono hB.size)
  clear hb1
  go_wp2_with fail
  refine (box_any a0 b0 a1 b1 _).mono ?_
  rintro e w2 ⟨rfl, hb2⟩
  replace D0 := cell_kept D0 hb2
  replace D1 := cell_kept D1 hb2
  replace D2 := cell_kept D2 hb2
  replace D3 := cell_kept D3 hb2
  replace D4 := cell_kept D4 hb2
  replace D5 := cell_kept D5 hb2
  replace D6 := cell_kept D6 hb2
  replace R0 := cell_kept R0 hb2
  replace R1 := cell_kept R1 hb2
  replace R2 := cell_kept R2 hb2
  replace R3 := cell_kept R3 hb2
  replace HR := Lib.hid (HR.out.below hb2)
  replace HP := Lib.hid (HP.out.below hb2)
  replace hB := hB.trans (hb2.mono hB.size)
  clear hb2
  go_wp2_with fail
  refine (near4_any a0 b0 a1 b1 true (by simp [hN.out]) _).mono ?_
  rintro e w3 ⟨rfl, hb3⟩
  replace D0 := cell_kept D0 hb3
  replace D1 := cell_kept D1 hb3
  replace D2 := cell_kept D2 hb3
  replace D3 := cell_kept D3 hb3
  replace D4 := cell_kept D4 hb3
  replace D5 := cell_kept D5 hb3
  replace D6 := cell_kept D6 hb3
  replace R0 := cell_kept R0 hb3
  replace R1 := cell_kept R1 hb3
  replace R2 := cell_kept R2 hb3
  replace R3 := cell_kept R3 hb3
  replace HR := Lib.hid (HR.out.below hb3)
  replace HP := Lib.hid (HP.out.below hb3)
  replace hB := hB.trans (hb3.mono hB.size)
  clear hb3
  go_wp2_with fail
  refine (implSub_none x0 y0 x1 y1 s A c zs B k ps a0 b0 a1 b1 _ HR hl hn HP pl hE).mono ?_
  rintro e w4 ⟨E1, f1, E2, f2, rfl, ho1, ho2, hb4⟩
  have HM := Lib.hid (Reads.of_own ho1)
  have HN1 := Lib.hid (own_nil ho1)
  have HQ := Lib.hid (PReads.of_own ho2)
  clear ho1 ho2
  replace D0 := cell_kept D0 hb4
  replace D1 := cell_kept D1 hb4
  replace D2 := cell_kept D2 hb4
  replace D3 := cell_kept D3 hb4
  replace D4 := cell_kept D4 hb4
  replace D5 := cell_kept D5 hb4
  replace D6 := cell_kept D6 hb4
  replace R0 := cell_kept R0 hb4
  replace R1 := cell_kept R1 hb4
  replace R2 := cell_kept R2 hb4
  replace R3 := cell_kept R3 hb4
  replace HR := Lib.hid (HR.out.below hb4)
  replace HP := Lib.hid (HP.out.below hb4)
  replace hB := hB.trans (hb4.mono hB.size)
  clear hb4
  have aw : Below w4.heap.size w4 (w4.alloc (.cells #[.int .i64 0, .int .i64 0, .int .i64 0, .int .i64 0, .int .i64 0, .slice E1 ([] : List Int).length f1, .slice E2 ps.length f2] 27)) := (Below.refl _ _).alloc (Nat.le_refl _) _
  replace D0 := cell_kept D0 aw
  replace D1 := cell_kept D1 aw
  replace D2 := cell_kept D2 aw
  replace D3 := cell_kept D3 aw
  replace D4 := cell_kept D4 aw
  replace D5 := cell_kept D5 aw
  replace D6 := cell_kept D6 aw
  replace R0 := cell_kept R0 aw
  replace R1 := cell_kept R1 aw
  replace R2 := cell_kept R2 aw
  replace R3 := cell_kept R3 aw
  replace HR := Lib.hid (HR.out.below aw)
  replace HP := Lib.hid (HP.out.below aw)
  replace HM := Lib.hid (HM.out.below aw)
  replace HQ := Lib.hid (HQ.out.below aw)
  replace hB := hB.trans (aw.mono hB.size)
  have M0 : (w4.alloc (.cells #[.int .i64 0, .int .i64 0, .int .i64 0, .int .i64 0, .int .i64 0, .slice E1 ([] : List Int).length f1, .slice E2 ps.length f2] 27)).cell? ⟨w4.heap.size, 0, none⟩ = some (.int .i64 0) := by simp
  have M1 : (w4.alloc (.cells #[.int .i64 0, .int .i64 0, .int .i64 0, .int .i64 0, .int .i64 0, .slice E1 ([] : List Int).length f1, .slice E2 ps.length f2] 27)).cell? ⟨w4.heap.size, 1, none⟩ = some (.int .i64 0) := by simp
  have M2 : (w4.alloc (.cells #[.int .i64 0, .int .i64 0, .int .i64 0, .int .i64 0, .int .i64 0, .slice E1 ([] : List Int).length f1, .slice E2 ps.length f2] 27)).cell? ⟨w4.heap.size, 2, none⟩ = some (.int .i64 0) := by simp
  have M3 : (w4.alloc (.cells #[.int .i64 0, .int .i64 0, .int .i64 0, .int .i64 0, .int .i64 0, .slice E1 ([] : List Int).length f1, .slice E2 ps.length f2] 27)).cell? ⟨w4.heap.size, 3, none⟩ = some (.int .i64 0) := by simp
  have M4 : (w4.alloc (.cells #[.int .i64 0, .int .i64 0, .int .i64 0, .int .i64 0, .int .i64 0, .slice E1 ([] : List Int).length f1, .slice E2 ps.length f2] 27)).cell? ⟨w4.heap.size, 4, none⟩ = some (.int .i64 0) := by simp
  have M5 : (w4.alloc (.cells #[.int .i64 0, .int .i64 0, .int .i64 0, .int .i64 0, .int .i64 0, .slice E1 ([] : List Int).length f1, .slice E2 ps.length f2] 27)).cell? ⟨w4.heap.size, 5, none⟩ = some (.slice E1 ([] : List Int).length f1) := by simp
  have M6 : (w4.alloc (.cells #[.int .i64 0, .int .i64 0, .int .i64 0, .int .i64 0, .int .i64 0, .slice E1 ([] : List Int).length f1, .slice E2 ps.length f2] 27)).cell? ⟨w4.heap.size, 6, none⟩ = some (.slice E2 ps.length f2) := by simp
  have hltWA : w4.heap.size < (w4.alloc (.cells #[.int .i64 0, .int .i64 0, .int .i64 0, .int .i64 0, .int .i64 0, .slice E1 ([] : List Int).length f1, .slice E2 ps.length f2] 27)).heap.size := by simp
  clear aw
  go_wp2_with fail
  generalize w4.alloc (.cells #[.int .i64 0, .int .i64 0, .int .i64 0, .int .i64 0, .int .i64 0, .slice E1 ([] : List Int).length f1, .slice E2 ps.length f2] 27) = WA at *
  generalize w4.heap.size = ba at *
  have tok1 : True := trivial
  go_upto_region 4 with fail
  have P0 : Below WA.heap.size WA WA.drew := (Below.refl _ _).drew
  have P0a : Below WA.heap.size WA (WA.alloc (.cells #[.int .i64 0, .int .i64 0, .int .i64 0, .int .i64 0] 33)).drew := ((Below.refl _ _).alloc (Nat.le_refl _) _).drew
  have toS : ∀ W' : World, Below WA.heap.size WA W' → (W'.cell? ⟨w.heap.size, 0, none⟩ = some (.int .i64 x0) ∧ W'.cell? ⟨w.heap.size, 1, none⟩ = some (.int .i64 y0) ∧ W'.cell? ⟨w.heap.size, 2, none⟩ = some (.int .i64 x1) ∧ W'.cell? ⟨w.heap.size, 3, none⟩ = some (.int .i64 y1) ∧ W'.cell? ⟨w.heap.size, 4, none⟩ = some (.int .i64 s) ∧ W'.cell? ⟨w.heap.size, 5, none⟩ = some (.slice A zs.length c) ∧ W'.cell? ⟨w.heap.size, 6, none⟩ = some (.slice B ps.length k) ∧ W'.cell? ⟨br, 0, none⟩ = some (.int .i64 a0) ∧ W'.cell? ⟨br, 1, none⟩ = some (.int .i64 b0) ∧ W'.cell? ⟨br, 2, none⟩ = some (.int .i64 a1) ∧ W'.cell? ⟨br, 3, none⟩ = some (.int .i64 b1)) := fun W' h => ⟨cell_kept D0 h, cell_kept D1 h, cell_kept D2 h, cell_kept D3 h, cell_kept D4 h, cell_kept D5 h, cell_kept D6 h, cell_kept R0 h, cell_kept R1 h, cell_kept R2 h, cell_kept R3 h⟩
  have TOS := Lib.hid toS
  clear toS
  go_cut [11, 12] (fun pp qq wx => ∃ bc : Nat, pp = .pointer (some ⟨bc, 0, none⟩) ∧ qq = .bool false ∧ WA.heap.size ≤ bc ∧ bc < wx.heap.size ∧ Below WA.heap.size WA wx ∧ wx.cell? ⟨bc, 0, none⟩ = some (.int .i64 0) ∧ wx.cell? ⟨bc, 1, none⟩ = some (.int .i64 0) ∧ wx.cell? ⟨bc, 2, none⟩ = some (.int .i64 0) ∧ wx.cell? ⟨bc, 3, none⟩ = some (.int .i64 0))
  case first =>
    go_region_held3 (fun w' => w'.cell? ⟨w.heap.size, 0, none⟩ = some (.int .i64 x0) ∧ w'.cell? ⟨w.heap.size, 1, none⟩ = some (.int .i64 y0) ∧ w'.cell? ⟨w.heap.size, 2, none⟩ = some (.int .i64 x1) ∧ w'.cell? ⟨w.heap.size, 3, none⟩ = some (.int .i64 y1) ∧ w'.cell? ⟨w.heap.size, 4, none⟩ = some (.int .i64 s) ∧ w'.cell? ⟨w.heap.size, 5, none⟩ = some (.slice A zs.length c) ∧ w'.cell? ⟨w.heap.size, 6, none⟩ = some (.slice B ps.length k) ∧ w'.cell? ⟨br, 0, none⟩ = some (.int .i64 a0) ∧ w'.cell? ⟨br, 1, none⟩ = some (.int .i64 b0) ∧ w'.cell? ⟨br, 2, none⟩ = some (.int .i64 a1) ∧ w'.cell? ⟨br, 3, none⟩ = some (.int .i64 b1))
      ((refine TOS.out _ ?_; first | with_reducible exact P0 | with_reducible exact P0a | with_reducible exact P1 | with_reducible exact P1.alloc P1.size _ | with_reducible exact P2 | with_reducible exact P2.alloc P2.size _ | with_reducible exact P3 | with_reducible exact P3.alloc P3.size _ | with_reducible exact ((((P3.setCell (Nat.le_refl _) _).setCell (Nat.le_refl _) _).setCell (Nat.le_refl _) _).setCell (Nat.le_refl _) _) | with_reducible exact ((((P3.setCell P1.size _).setCell P1.size _).setCell P1.size _).setCell P1.size _) | with_reducible exact ((((P3.setCell P2.size _).setCell P2.size _).setCell P2.size _).setCell P2.size _)))
      (first | (go_at_call 20; have _t := tok1; refine (box_any x0 y0 x1 y1 _).mono ?_; rintro e u1 ⟨rfl, hv1⟩; clear tok1; (first | (have P1 : Below WA.heap.size WA u1 := P0.trans (hv1.mono P0.size); skip) | (have P1 : Below WA.heap.size WA u1 := P0a.trans (hv1.mono P0a.size); have zc0 : u1.cell? ⟨WA.heap.size, 0, none⟩ = some (.int .i64 0) := ((bcell hv1).1 _ 0 (by simp)).trans (by simp); have zf0 : u1.frozen? ⟨WA.heap.size, 0, none⟩ = false := ((bcell hv1).2 _ 0 (by simp)).trans (by simp); have zc1 : u1.cell? ⟨WA.heap.size, 1, none⟩ = some (.int .i64 0) := ((bcell hv1).1 _ 1 (by simp)).trans (by simp); have zf1 : u1.frozen? ⟨WA.heap.size, 1, none⟩ = false := ((bcell hv1).2 _ 1 (by simp)).trans (by simp); have zc2 : u1.cell? ⟨WA.heap.size, 2, none⟩ = some (.int .i64 0) := ((bcell hv1).1 _ 2 (by simp)).trans (by simp); have zf2 : u1.frozen? ⟨WA.heap.size, 2, none⟩ = false := ((bcell hv1).2 _ 2 (by simp)).trans (by simp); have zc3 : u1.cell? ⟨WA.heap.size, 3, none⟩ = some (.int .i64 0) := ((bcell hv1).1 _ 3 (by simp)).trans (by simp); have zf3 : u1.frozen? ⟨WA.heap.size, 3, none⟩ = false := ((bcell hv1).2 _ 3 (by simp)).trans (by simp)))) | (go_at_call 20; refine (box_any a0 b0 a1 b1 _).mono ?_; rintro e u2 ⟨rfl, hv2⟩; (first | (have P2 : Below WA.heap.size WA u2 := P1.trans (hv2.mono P1.size); (try (replace zf0 := frozenK zc0 zf0 hv2; replace zc0 := cell_kept zc0 hv2; replace zf1 := frozenK zc1 zf1 hv2; replace zc1 := cell_kept zc1 hv2; replace zf2 := frozenK zc2 zf2 hv2; replace zc2 := cell_kept zc2 hv2; replace zf3 := frozenK zc3 zf3 hv2; replace zc3 := cell_kept zc3 hv2))) | (have P2 : Below WA.heap.size WA u2 := (P1.alloc P1.size (.cells #[.int .i64 0, .int .i64 0, .int .i64 0, .int .i64 0] 33)).trans (hv2.mono (P1.alloc P1.size (.cells #[.int .i64 0, .int .i64 0, .int .i64 0, .int .i64 0] 33)).size); have zc0 : u2.cell? ⟨u1.heap.size, 0, none⟩ = some (.int .i64 0) := ((bcell hv2).1 _ 0 (by simp)).trans (by simp); have zf0 : u2.frozen? ⟨u1.heap.size, 0, none⟩ = false := ((bcell hv2).2 _ 0 (by simp)).trans (by simp); have zc1 : u2.cell? ⟨u1.heap.size, 1, none⟩ = some (.int .i64 0) := ((bcell hv2).1 _ 1 (by simp)).trans (by simp); have zf1 : u2.frozen? ⟨u1.heap.size, 1, none⟩ = false := ((bcell hv2).2 _ 1 (by simp)).trans (by simp); have zc2 : u2.cell? ⟨u1.heap.size, 2, none⟩ = some (.int .i64 0) := ((bcell hv2).1 _ 2 (by simp)).trans (by simp); have zf2 : u2.frozen? ⟨u1.heap.size, 2, none⟩ = false := ((bcell hv2).2 _ 2 (by simp)).trans (by simp); have zc3 : u2.cell? ⟨u1.heap.size, 3, none⟩ = some (.int .i64 0) := ((bcell hv2).1 _ 3 (by simp)).trans (by simp); have zf3 : u2.frozen? ⟨u1.heap.size, 3, none⟩ = false := ((bcell hv2).2 _ 3 (by simp)).trans (by simp)))) | (go_at_call 35; refine (common_none x0 y0 x1 y1 a0 b0 a1 b1 _ hE.out).mono ?_; rintro e u3 ⟨rfl, hv3⟩; (first | (have P3 : Below WA.heap.size WA u3 := P2.trans (hv3.mono P2.size); (try (replace zf0 := frozenK zc0 zf0 hv3; replace zc0 := cell_kept zc0 hv3; replace zf1 := frozenK zc1 zf1 hv3; replace zc1 := cell_kept zc1 hv3; replace zf2 := frozenK zc2 zf2 hv3; replace zc2 := cell_kept zc2 hv3; replace zf3 := frozenK zc3 zf3 hv3; replace zc3 := cell_kept zc3 hv3))) | (have P3 : Below WA.heap.size WA u3 := (P2.alloc P2.size (.cells #[.int .i64 0, .int .i64 0, .int .i64 0, .int .i64 0] 33)).trans (hv3.mono (P2.alloc P2.size (.cells #[.int .i64 0, .int .i64 0, .int .i64 0, .int .i64 0] 33)).size); have zc0 : u3.cell? ⟨u2.heap.size, 0, none⟩ = some (.int .i64 0) := ((bcell hv3).1 _ 0 (by simp)).trans (by simp); have zf0 : u3.frozen? ⟨u2.heap.size, 0, none⟩ = false := ((bcell hv3).2 _ 0 (by simp)).trans (by simp); have zc1 : u3.cell? ⟨u2.heap.size, 1, none⟩ = some (.int .i64 0) := ((bcell hv3).1 _ 1 (by simp)).trans (by simp); have zf1 : u3.frozen? ⟨u2.heap.size, 1, none⟩ = false := ((bcell hv3).2 _ 1 (by simp)).trans (by simp); have zc2 : u3.cell? ⟨u2.heap.size, 2, none⟩ = some (.int .i64 0) := ((bcell hv3).1 _ 2 (by simp)).trans (by simp); have zf2 : u3.frozen? ⟨u2.heap.size, 2, none⟩ = false := ((bcell hv3).2 _ 2 (by simp)).trans (by simp); have zc3 : u3.cell? ⟨u2.heap.size, 3, none⟩ = some (.int .i64 0) := ((bcell hv3).1 _ 3 (by simp)).trans (by simp); have zf3 : u3.frozen? ⟨u2.heap.size, 3, none⟩ = false := ((bcell hv3).2 _ 3 (by simp)).trans (by simp)))))
    all_goals
      go_wp2_with fail
      go_meet
      have z1 := P1.size
      have z2 := P2.size
      have z3 := P3.size
      have y2 := hv2.size
      have y3 := hv3.size
      first
        | exact ⟨u3.heap.size, rfl, rfl, P3.size, by simp, P3.alloc P3.size _, by simp, by simp, by simp, by simp⟩
        | exact ⟨WA.heap.size, rfl, rfl, Nat.le_refl _, lt_sets (World.block_lt_of_cell? _ _ zc0) (by simp [World.setCell]), ((((P3.setCell (Nat.le_refl _) _).setCell (Nat.le_refl _) _).setCell (Nat.le_refl _) _).setCell (Nat.le_refl _) _), by go_simp, by go_simp, by go_simp, by go_simp⟩
        | exact ⟨u1.heap.size, rfl, rfl, P1.size, lt_sets (World.block_lt_of_cell? _ _ zc0) (by simp [World.setCell]), ((((P3.setCell P1.size _).setCell P1.size _).setCell P1.size _).setCell P1.size _), by go_simp, by go_simp, by go_simp, by go_simp⟩
        | exact ⟨u2.heap.size, rfl, rfl, P2.size, lt_sets (World.block_lt_of_cell? _ _ zc0) (by simp [World.setCell]), ((((P3.setCell P2.size _).setCell P2.size _).setCell P2.size _).setCell P2.size _), by go_simp, by go_simp, by go_simp, by go_simp⟩
  case rest =>
    clear TOS P0 P0a
    obtain ⟨bc, rfl, rfl, hbc, hbl, hBm, cc0, cc1, cc2, cc3⟩ := hcut
    replace D0 := cell_kept D0 hBm
    replace D1 := cell_kept D1 hBm
    replace D2 := cell_kept D2 hBm
    replace D3 := cell_kept D3 hBm
    replace D4 := cell_kept D4 hBm
    replace D5 := cell_kept D5 hBm
    replace D6 := cell_kept D6 hBm
    replace R0 := cell_kept R0 hBm
    replace R1 := cell_kept R1 hBm
    replace R2 := cell_kept R2 hBm
    replace R3 := cell_kept R3 hBm
    replace M0 := cell_kept M0 hBm
    replace M1 := cell_kept M1 hBm
    replace M2 := cell_kept M2 hBm
    replace M3 := cell_kept M3 hBm
    replace M4 := cell_kept M4 hBm
    replace M5 := cell_kept M5 hBm
    replace M6 := cell_kept M6 hBm
    replace HR := Lib.hid (HR.out.below hBm)
    replace HP := Lib.hid (HP.out.below hBm)
    replace HM := Lib.hid (HM.out.below hBm)
    replace HQ := Lib.hid (HQ.out.below hBm)
    replace hB := hB.trans (hBm.mono hB.size)
    clear hBm hbc
    go_wp2_with fail
    refine (box_any 0 0 0 0 _).mono ?_
    rintro e w5 ⟨rfl, hb5⟩
    replace D0 := cell_kept D0 hb5
    replace D1 := cell_kept D1 hb5
    replace D2 := cell_kept D2 hb5
    replace D3 := cell_kept D3 hb5
    replace D4 := cell_kept D4 hb5
    replace D5 := cell_kept D5 hb5
    replace D6 := cell_kept D6 hb5
    replace R0 := cell_kept R0 hb5
    replace R1 := cell_kept R1 hb5
    replace R2 := cell_kept R2 hb5
    replace R3 := cell_kept R3 hb5
    replace M0 := cell_kept M0 hb5
    replace M1 := cell_kept M1 hb5
    replace M2 := cell_kept M2 hb5
    replace M3 := cell_kept M3 hb5
    replace M4 := cell_kept M4 hb5
    replace M5 := cell_kept M5 hb5
    replace M6 := cell_kept M6 hb5
    replace cc0 := cell_kept cc0 hb5
    replace cc1 := cell_kept cc1 hb5
    replace cc2 := cell_kept cc2 hb5
    replace cc3 := cell_kept cc3 hb5
    replace HR := Lib.hid (HR.out.below hb5)
    replace HP := Lib.hid (HP.out.below hb5)
    replace HM := Lib.hid (HM.out.below hb5)
    replace HQ := Lib.hid (HQ.out.below hb5)
    replace hB := hB.trans (hb5.mono hB.size)
    clear hb5
    go_wp2_with fail
    refine (empt_any 0 0 0 0 true (by simp [Empt]) _).mono ?_
    rintro e w6 ⟨rfl, hb6⟩
    replace D0 := cell_kept D0 hb6
    replace D1 := cell_kept D1 hb6
    replace D2 := cell_kept D2 hb6
    replace D3 := cell_kept D3 hb6
    replace D4 := cell_kept D4 hb6
    replace D5 := cell_kept D5 hb6
    replace D6 := cell_kept D6 hb6
    replace R0 := cell_kept R0 hb6
    replace R1 := cell_kept R1 hb6
    replace R2 := cell_kept R2 hb6
    replace R3 := cell_kept R3 hb6
    replace M0 := cell_kept M0 hb6
    replace M1 := cell_kept M1 hb6
    replace M2 := cell_kept M2 hb6
    replace M3 := cell_kept M3 hb6
    replace M4 := cell_kept M4 hb6
    replace M5 := cell_kept M5 hb6
    replace M6 := cell_kept M6 hb6
    replace cc0 := cell_kept cc0 hb6
    replace cc1 := cell_kept cc1 hb6
    replace cc2 := cell_kept cc2 hb6
    replace cc3 := cell_kept cc3 hb6
    replace HR := Lib.hid (HR.out.below hb6)
    replace HP := Lib.hid (HP.out.below hb6)
    replace HM := Lib.hid (HM.out.below hb6)
    replace HQ := Lib.hid (HQ.out.below hb6)
    replace hB := hB.trans (hb6.mono hB.size)
    clear hb6
    go_wp2
    go_ret
    exact ⟨by simp, hB⟩

set_option maxRecDepth 100000 in
set_option maxHeartbeats 2000000 in
theorem sub_out (x0 y0 x1 y1 s : Int) (A : Option Addr) (c : Nat) (zs : List Int) (B : Option Addr) (k : Nat) (ps : List (Int × Int × Int × Int)) (a0 b0 a1 b1 x y : Int) (w : World) (hr : Hid (Reads w A zs)) (hl : Small zs) (hn : Hid (A = none → c = 0)) (pr : Hid (PReads w B ps)) (pl : (ps.length : Int) ≤ 2097152) (hF : Hid (Fits x0 y0 x1 y1 s 1 zs.length)) (hN : Hid (Near4 a0 b0 a1 b1)) (c0 d0 c1 d1 : Int) (m1 : Hid (max x0 a0 = c0)) (m2 : Hid (max y0 b0 = d0)) (m3 : Hid (min x1 a1 = c1)) (m4 : Hid (min y1 b1 = d1)) (n5 : c0 < c1) (n6 : d0 < d1) (hJ : Hid (¬ Insd c0 d0 c1 d1 x y)) :
    Calls Try.prog 12 #[.agg #[.int .i64 x0, .int .i64 y0, .int .i64 x1, .int .i64 y1, .int .i64 s, .slice A zs.length c, .slice B ps.length k], .agg #[.int .i64 a0, .int .i64 b0, .int .i64 a1, .int .i64 b1], .int .i64 x, .int .i64 y] w fun e w' => e = .returned (.bool true) ∧ Below w.heap.size w w' := by
  have hW : Hid (Within c0 d0 c1 d1 x0 y0 x1 y1) := by unfold Hid; rw [← m1.out, ← m2.out, ← m3.out, ← m4.out]; exact within_of _ _ _ _ _ _ _ _
  have N5 : Hid (max x0 a0 < min x1 a1) := by unfold Hid; rw [m1.out, m3.out]; exact n5
  have N6 : Hid (max y0 b0 < min y1 b1) := by unfold Hid; rw [m2.out, m4.out]; exact n6
  obtain ⟨nx1, nx2, nx3, nx4⟩ : x0 < x1 ∧ y0 < y1 ∧ a0 < a1 ∧ b0 < b1 := by have := N5.out; have := N6.out; omega
  have hI0 : Hid (Insd x0 y0 x1 y1 c0 d0) := hW.out.insd ⟨Int.le_refl _, n5, Int.le_refl _, n6⟩
  obtain ⟨q1, q2, q3, q4⟩ : -4398046511104 ≤ d0 - y0 ∧ d0 - y0 ≤ 4398046511104 ∧ -4398046511104 ≤ c0 - x0 ∧ c0 - x0 ≤ 4398046511104 := near_point hF.out hI0.out
  obtain ⟨p1, p2⟩ : -2305843009213693952 ≤ (d0 - y0) * s ∧ (d0 - y0) * s ≤ 2305843009213693952 := (by have := hF.out.prods hI0.out; omega)
  obtain ⟨m, hK, hk⟩ := hF.out.place (z := 1) rfl hI0.out
  have HFm : Hid (Fits c0 d0 c1 d1 s 1 (zs.drop m).length) := by unfold Hid; rw [List.length_drop]; exact fits_sub hF.out hW.out n5 n6 hK (by omega)
  have HL : Hid ((zs.drop m).length = zs.length - m) := List.length_drop
  have hlm := drop_small hl m
  rw [Int.mul_one] at hK
  have HK := Lib.hid hK
  have Hk : Hid (m < zs.length) := by unfold Hid; omega
  obtain ⟨zm, HY⟩ : ∃ z, zs.drop m = z := ⟨_, rfl⟩
  rw [HY] at HFm HL hlm
  replace HY := Lib.hid HY
  clear hK hk
  have hB : Below w.heap.size w ((w.alloc (.cells #[.int .i64 x0, .int .i64 y0, .int .i64 x1, .int .i64 y1, .int .i64 s, .slice A zs.length c, .slice B ps.length k] 27)).alloc (.cells #[.int .i64 a0, .int .i64 b0, .int .i64 a1, .int .i64 b1] 23)) := ((Below.refl _ _).alloc (Nat.le_refl _) _).alloc (by simp) _
  have D0 : ((w.alloc (.cells #[.int .i64 x0, .int .i64 y0, .int .i64 x1, .int .i64 y1, .int .i64 s, .slice A zs.length c, .slice B ps.length k] 27)).alloc (.cells #[.int .i64 a0, .int .i64 b0, .int .i64 a1, .int .i64 b1] 23)).cell? ⟨w.heap.size, 0, none⟩ = some (.int .i64 x0) := by first | (simp; done) | go_simp
  have D1 : ((w.alloc (.cells #[.int .i64 x0, .int .i64 y0, .int .i64 x1, .int .i64 y1, .int .i64 s, .slice A zs.length c, .slice B ps.length k] 27)).alloc (.cells #[.int .i64 a0, .int .i64 b0, .int .i64 a1, .int .i64 b1] 23)).cell? ⟨w.heap.size, 1, none⟩ = some (.int .i64 y0) := by first | (simp; done) | go_simp
  have D2 : ((w.alloc (.cells #[.int .i64 x0, .int .i64 y0, .int .i64 x1, .int .i64 y1, .int .i64 s, .slice A zs.length c, .slice B ps.length k] 27)).alloc (.cells #[.int .i64 a0, .int .i64 b0, .int .i64 a1, .int .i64 b1] 23)).cell? ⟨w.heap.size, 2, none⟩ = some (.int .i64 x1) := by first | (simp; done) | go_simp
  have D3 : ((w.alloc (.cells #[.int .i64 x0, .int .i64 y0, .int .i64 x1, .int .i64 y1, .int .i64 s, .slice A zs.length c, .slice B ps.length k] 27)).alloc (.cells #[.int .i64 a0, .int .i64 b0, .int .i64 a1, .int .i64 b1] 23)).cell? ⟨w.heap.size, 3, none⟩ = some (.int .i64 y1) := by first | (simp; done) | go_simp
  have D4 : ((w.alloc (.cells #[.int .i64 x0, .int .i64 y0, .int .i64 x1, .int .i64 y1, .int .i64 s, .slice A zs.length c, .slice B ps.length k] 27)).alloc (.cells #[.int .i64 a0, .int .i64 b0, .int .i64 a1, .int .i64 b1] 23)).cell? ⟨w.heap.size, 4, none⟩ = some (.int .i64 s) := by first | (simp; done) | go_simp
  have D5 : ((w.alloc (.cells #[.int .i64 x0, .int .i64 y0, .int .i64 x1, .int .i64 y1, .int .i64 s, .slice A zs.length c, .slice B ps.length k] 27)).alloc (.cells #[.int .i64 a0, .int .i64 b0, .int .i64 a1, .int .i64 b1] 23)).cell? ⟨w.heap.size, 5, none⟩ = some (.slice A zs.length c) := by first | (simp; done) | go_simp
  have D6 : ((w.alloc (.cells #[.int .i64 x0, .int .i64 y0, .int .i64 x1, .int .i64 y1, .int .i64 s, .slice A zs.length c, .slice B ps.length k] 27)).alloc (.cells #[.int .i64 a0, .int .i64 b0, .int .i64 a1, .int .i64 b1] 23)).cell? ⟨w.heap.size, 6, none⟩ = some (.slice B ps.length k) := by first | (simp; done) | go_simp
  have R0 : ((w.alloc (.cells #[.int .i64 x0, .int .i64 y0, .int .i64 x1, .int .i64 y1, .int .i64 s, .slice A zs.length c, .slice B ps.length k] 27)).alloc (.cells #[.int .i64 a0, .int .i64 b0, .int .i64 a1, .int .i64 b1] 23)).cell? ⟨w.heap.size + 1, 0, none⟩ = some (.int .i64 a0) := by first | (simp; done) | go_simp
  have R1 : ((w.alloc (.cells #[.int .i64 x0, .int .i64 y0, .int .i64 x1, .int .i64 y1, .int .i64 s, .slice A zs.length c, .slice B ps.length k] 27)).alloc (.cells #[.int .i64 a0, .int .i64 b0, .int .i64 a1, .int .i64 b1] 23)).cell? ⟨w.heap.size + 1, 1, none⟩ = some (.int .i64 b0) := by first | (simp; done) | go_simp
  have R2 : ((w.alloc (.cells #[.int .i64 x0, .int .i64 y0, .int .i64 x1, .int .i64 y1, .int .i64 s, .slice A zs.length c, .slice B ps.length k] 27)).alloc (.cells #[.int .i64 a0, .int .i64 b0, .int .i64 a1, .int .i64 b1] 23)).cell? ⟨w.heap.size + 1, 2, none⟩ = some (.int .i64 a1) := by first | (simp; done) | go_simp
  have R3 : ((w.alloc (.cells #[.int .i64 x0, .int .i64 y0, .int .i64 x1, .int .i64 y1, .int .i64 s, .slice A zs.length c, .slice B ps.length k] 27)).alloc (.cells #[.int .i64 a0, .int .i64 b0, .int .i64 a1, .int .i64 b1] 23)).cell? ⟨w.heap.size + 1, 3, none⟩ = some (.int .i64 b1) := by first | (simp; done) | go_simp
  have HR := Lib.hid (hr.out.below hB)
  have HP := Lib.hid (pr.out.below hB)
  go_enter Try.func12, Try.ntmps12
  go_wp2_with fail
  generalize (w.alloc (.cells #[.int .i64 x0, .int .i64 y0, .int .i64 x1, .int .i64 y1, .int .i64 s, .slice A zs.length c, .slice B ps.length k] 27)).alloc (.cells #[.int .i64 a0, .int .i64 b0, .int .i64 a1, .int .i64 b1] 23) = W0 at *
  generalize w.heap.size + 1 = br at *
  refine (fitsK_any x0 y0 x1 y1 s A c zs B k ps true (by simp [hF.out]) _).mono ?_
  rintro e w1 ⟨rfl, hb1⟩
  replace D0 := cell_kept D0 hb1
  replace D1 := cell_kept D1 hb1
  replace D2 := cell_kept D2 hb1
  replace D3 := cell_kept D3 hb1
  replace D4 := cell_kept D4 hb1
  replace D5 := cell_kept D5 hb1
  replace D6 := cell_kept D6 hb1
  replace R0 := cell_kept R0 hb1
  replace R1 := cell_kept R1 hb1
  replace R2 := cell_kept R2 hb1
  replace R3 := cell_kept R3 hb1
  replace HR := Lib.hid (HR.out.below hb1)
  replace HP := Lib.hid (HP.out.below hb1)
  replace hB := hB.trans (hb1.mono hB.size)
  clear hb1
  go_wp2_with fail
  refine (box_any a0 b0 a1 b1 _).mono ?_
  rintro e w2 ⟨rfl, hb2⟩
  replace D0 := cell_kept D0 hb2
  replace D1 := cell_kept D1 hb2
  replace D2 := cell_kept D2 hb2
  replace D3 := cell_kept D3 hb2
  replace D4 := cell_kept D4 hb2
  replace D5 := cell_kept D5 hb2
  replace D6 := cell_kept D6 hb2
  replace R0 := cell_kept R0 hb2
  replace R1 := cell_kept R1 hb2
  replace R2 := cell_kept R2 hb2
  replace R3 := cell_kept R3 hb2
  replace HR := Lib.hid (HR.out.below hb2)
  replace HP := Lib.hid (HP.out.below hb2)
  replace hB := hB.trans (hb2.mono hB.size)
  clear hb2
  go_wp2_with fail
  refine (near4_any a0 b0 a1 b1 true (by simp [hN.out]) _).mono ?_
  rintro e w3 ⟨rfl, hb3⟩
  replace D0 := cell_kept D0 hb3
  replace D1 := cell_kept D1 hb3
  replace D2 := cell_kept D2 hb3
  replace D3 := cell_kept D3 hb3
  replace D4 := cell_kept D4 hb3
  replace D5 := cell_kept D5 hb3
  replace D6 := cell_kept D6 hb3
  replace R0 := cell_kept R0 hb3
  replace R1 := cell_kept R1 hb3
  replace R2 := cell_kept R2 hb3
  replace R3 := cell_kept R3 hb3
  replace HR := Lib.hid (HR.out.below hb3)
  replace HP := Lib.hid (HP.out.below hb3)
  replace hB := hB.trans (hb3.mono hB.size)
  clear hb3
  go_wp2_with fail
  refine (implSub_some x0 y0 x1 y1 s A c zs B k ps a0 b0 a1 b1 _ HR hl hn HP pl c0 d0 c1 d1 m m1 m2 m3 m4 n5 n6 HK Hk q1 q2 q3 q4 p1 p2 zm HY HL hlm).mono ?_
  rintro e w4 ⟨E1, f1, E2, f2, rfl, ho1, ho2, hb4⟩
  have HM := Lib.hid (Reads.of_own ho1)
  have HN1 := Lib.hid (own_nil ho1)
  have HQ := Lib.hid (PReads.of_own ho2)
  clear ho1 ho2
  replace D0 := cell_kept D0 hb4
  replace D1 := cell_kept D1 hb4
  replace D2 := cell_kept D2 hb4
  replace D3 := cell_kept D3 hb4
  replace D4 := cell_kept D4 hb4
  replace D5 := cell_kept D5 hb4
  replace D6 := cell_kept D6 hb4
  replace R0 := cell_kept R0 hb4
  replace R1 := cell_kept R1 hb4
  replace R2 := cell_kept R2 hb4
  replace R3 := cell_kept R3 hb4
  replace HR := Lib.hid (HR.out.below hb4)
  replace HP := Lib.hid (HP.out.below hb4)
  replace hB := hB.trans (hb4.mono hB.size)
  clear hb4
  have aw : Below w4.heap.size w4 (w4.alloc (.cells #[.int .i64 c0, .int .i64 d0, .int .i64 c1, .int .i64 d1, .int .i64 s, .slice E1 zm.length f1, .slice E2 ps.length f2] 27)) := (Below.refl _ _).alloc (Nat.le_refl _) _
  replace D0 := cell_kept D0 aw
  replace D1 := cell_kept D1 aw
  replace D2 := cell_kept D2 aw
  replace D3 := cell_kept D3 aw
  replace D4 := cell_kept D4 aw
  replace D5 := cell_kept D5 aw
  replace D6 := cell_kept D6 aw
  replace R0 := cell_kept R0 aw
  replace R1 := cell_kept R1 aw
  replace R2 := cell_kept R2 aw
  replace R3 := cell_kept R3 aw
  replace HR := Lib.hid (HR.out.below aw)
  replace HP := Lib.hid (HP.out.below aw)
  replace HM := Lib.hid (HM.out.below aw)
  replace HQ := Lib.hid (HQ.out.below aw)
  replace hB := hB.trans (aw.mono hB.size)
  have M0 : (w4.alloc (.cells #[.int .i64 c0, .int .i64 d0, .int .i64 c1, .int .i64 d1, .int .i64 s, .slice E1 zm.length f1, .slice E2 ps.length f2] 27)).cell? ⟨w4.heap.size, 0, none⟩ = some (.int .i64 c0) := by simp
  have M1 : (w4.alloc (.cells #[.int .i64 c0, .int .i64 d0, .int .i64 c1, .int .i64 d1, .int .i64 s, .slice E1 zm.length f1, .slice E2 ps.length f2] 27)).cell? ⟨w4.heap.size, 1, none⟩ = some (.int .i64 d0) := by simp
  have M2 : (w4.alloc (.cells #[.int .i64 c0, .int .i64 d0, .int .i64 c1, .int .i64 d1, .int .i64 s, .slice E1 zm.length f1, .slice E2 ps.length f2] 27)).cell? ⟨w4.heap.size, 2, none⟩ = some (.int .i64 c1) := by simp
  have M3 : (w4.alloc (.cells #[.int .i64 c0, .int .i64 d0, .int .i64 c1, .int .i64 d1, .int .i64 s, .slice E1 zm.length f1, .slice E2 ps.length f2] 27)).cell? ⟨w4.heap.size, 3, none⟩ = some (.int .i64 d1) := by simp
  have M4 : (w4.alloc (.cells #[.int .i64 c0, .int .i64 d0, .int .i64 c1, .int .i64 d1, .int .i64 s, .slice E1 zm.length f1, .slice E2 ps.length f2] 27)).cell? ⟨w4.heap.size, 4, none⟩ = some (.int .i64 s) := by simp
  have M5 : (w4.alloc (.cells #[.int .i64 c0, .int .i64 d0, .int .i64 c1, .int .i64 d1, .int .i64 s, .slice E1 zm.length f1, .slice E2 ps.length f2] 27)).cell? ⟨w4.heap.size, 5, none⟩ = some (.slice E1 zm.length f1) := by simp
  have M6 : (w4.alloc (.cells #[.int .i64 c0, .int .i64 d0, .int .i64 c1, .int .i64 d1, .int .i64 s, .slice E1 zm.length f1, .slice E2 ps.length f2] 27)).cell? ⟨w4.heap.size, 6, none⟩ = some (.slice E2 ps.length f2) := by simp
  have hltWA : w4.heap.size < (w4.alloc (.cells #[.int .i64 c0, .int .i64 d0, .int .i64 c1, .int .i64 d1, .int .i64 s, .slice E1 zm.length f1, .slice E2 ps.length f2] 27)).heap.size := by simp
  clear aw
  go_wp2_with fail
  generalize w4.alloc (.cells #[.int .i64 c0, .int .i64 d0, .int .i64 c1, .int .i64 d1, .int .i64 s, .slice E1 zm.length f1, .slice E2 ps.length f2] 27) = WA at *
  generalize w4.heap.size = ba at *
  have tok1 : True := trivial
  go_upto_region 4 with fail
  have P0 : Below WA.heap.size WA WA.drew := (Below.refl _ _).drew
  have P0a : Below WA.heap.size WA (WA.alloc (.cells #[.int .i64 0, .int .i64 0, .int .i64 0, .int .i64 0] 33)).drew := ((Below.refl _ _).alloc (Nat.le_refl _) _).drew
  have toS : ∀ W' : World, Below WA.heap.size WA W' → (W'.cell? ⟨w.heap.size, 0, none⟩ = some (.int .i64 x0) ∧ W'.cell? ⟨w.heap.size, 1, none⟩ = some (.int .i64 y0) ∧ W'.cell? ⟨w.heap.size, 2, none⟩ = some (.int .i64 x1) ∧ W'.cell? ⟨w.heap.size, 3, none⟩ = some (.int .i64 y1) ∧ W'.cell? ⟨w.heap.size, 4, none⟩ = some (.int .i64 s) ∧ W'.cell? ⟨w.heap.size, 5, none⟩ = some (.slice A zs.length c) ∧ W'.cell? ⟨w.heap.size, 6, none⟩ = some (.slice B ps.length k) ∧ W'.cell? ⟨br, 0, none⟩ = some (.int .i64 a0) ∧ W'.cell? ⟨br, 1, none⟩ = some (.int .i64 b0) ∧ W'.cell? ⟨br, 2, none⟩ = some (.int .i64 a1) ∧ W'.cell? ⟨br, 3, none⟩ = some (.int .i64 b1)) := fun W' h => ⟨cell_kept D0 h, cell_kept D1 h, cell_kept D2 h, cell_kept D3 h, cell_kept D4 h, cell_kept D5 h, cell_kept D6 h, cell_kept R0 h, cell_kept R1 h, cell_kept R2 h, cell_kept R3 h⟩
  have TOS := Lib.hid toS
  clear toS
  go_cut [11, 12] (fun pp qq wx => ∃ bc : Nat, pp = .pointer (some ⟨bc, 0, none⟩) ∧ qq = .bool true ∧ WA.heap.size ≤ bc ∧ bc < wx.heap.size ∧ Below WA.heap.size WA wx ∧ wx.cell? ⟨bc, 0, none⟩ = some (.int .i64 c0) ∧ wx.cell? ⟨bc, 1, none⟩ = some (.int .i64 d0) ∧ wx.cell? ⟨bc, 2, none⟩ = some (.int .i64 c1) ∧ wx.cell? ⟨bc, 3, none⟩ = some (.int .i64 d1))
  case first =>
    go_region_held3 (fun w' => w'.cell? ⟨w.heap.size, 0, none⟩ = some (.int .i64 x0) ∧ w'.cell? ⟨w.heap.size, 1, none⟩ = some (.int .i64 y0) ∧ w'.cell? ⟨w.heap.size, 2, none⟩ = some (.int .i64 x1) ∧ w'.cell? ⟨w.heap.size, 3, none⟩ = some (.int .i64 y1) ∧ w'.cell? ⟨w.heap.size, 4, none⟩ = some (.int .i64 s) ∧ w'.cell? ⟨w.heap.size, 5, none⟩ = some (.slice A zs.length c) ∧ w'.cell? ⟨w.heap.size, 6, none⟩ = some (.slice B ps.length k) ∧ w'.cell? ⟨br, 0, none⟩ = some (.int .i64 a0) ∧ w'.cell? ⟨br, 1, none⟩ = some (.int .i64 b0) ∧ w'.cell? ⟨br, 2, none⟩ = some (.int .i64 a1) ∧ w'.cell? ⟨br, 3, none⟩ = some (.int .i64 b1))
      ((refine TOS.out _ ?_; first | with_reducible exact P0 | with_reducible exact P0a | with_reducible exact P1 | with_reducible exact P1.alloc P1.size _ | with_reducible exact P2 | with_reducible exact P2.alloc P2.size _ | with_reducible exact P3 | with_reducible exact P3.alloc P3.size _ | with_reducible exact ((((P3.setCell (Nat.le_refl _) _).setCell (Nat.le_refl _) _).setCell (Nat.le_refl _) _).setCell (Nat.le_refl _) _) | with_reducible exact ((((P3.setCell P1.size _).setCell P1.size _).setCell P1.size _).setCell P1.size _) | with_reducible exact ((((P3.setCell P2.size _).setCell P2.size _).setCell P2.size _).setCell P2.size _)))
      (first | (go_at_call 20; have _t := tok1; refine (box_any x0 y0 x1 y1 _).mono ?_; rintro e u1 ⟨rfl, hv1⟩; clear tok1; (first | (have P1 : Below WA.heap.size WA u1 := P0.trans (hv1.mono P0.size); skip) | (have P1 : Below WA.heap.size WA u1 := P0a.trans (hv1.mono P0a.size); have zc0 : u1.cell? ⟨WA.heap.size, 0, none⟩ = some (.int .i64 0) := ((bcell hv1).1 _ 0 (by simp)).trans (by simp); have zf0 : u1.frozen? ⟨WA.heap.size, 0, none⟩ = false := ((bcell hv1).2 _ 0 (by simp)).trans (by simp); have zc1 : u1.cell? ⟨WA.heap.size, 1, none⟩ = some (.int .i64 0) := ((bcell hv1).1 _ 1 (by simp)).trans (by simp); have zf1 : u1.frozen? ⟨WA.heap.size, 1, none⟩ = false := ((bcell hv1).2 _ 1 (by simp)).trans (by simp); have zc2 : u1.cell? ⟨WA.heap.size, 2, none⟩ = some (.int .i64 0) := ((bcell hv1).1 _ 2 (by simp)).trans (by simp); have zf2 : u1.frozen? ⟨WA.heap.size, 2, none⟩ = false := ((bcell hv1).2 _ 2 (by simp)).trans (by simp); have zc3 : u1.cell? ⟨WA.heap.size, 3, none⟩ = some (.int .i64 0) := ((bcell hv1).1 _ 3 (by simp)).trans (by simp); have zf3 : u1.frozen? ⟨WA.heap.size, 3, none⟩ = false := ((bcell hv1).2 _ 3 (by simp)).trans (by simp)))) | (go_at_call 20; refine (box_any a0 b0 a1 b1 _).mono ?_; rintro e u2 ⟨rfl, hv2⟩; (first | (have P2 : Below WA.heap.size WA u2 := P1.trans (hv2.mono P1.size); (try (replace zf0 := frozenK zc0 zf0 hv2; replace zc0 := cell_kept zc0 hv2; replace zf1 := frozenK zc1 zf1 hv2; replace zc1 := cell_kept zc1 hv2; replace zf2 := frozenK zc2 zf2 hv2; replace zc2 := cell_kept zc2 hv2; replace zf3 := frozenK zc3 zf3 hv2; replace zc3 := cell_kept zc3 hv2))) | (have P2 : Below WA.heap.size WA u2 := (P1.alloc P1.size (.cells #[.int .i64 0, .int .i64 0, .int .i64 0, .int .i64 0] 33)).trans (hv2.mono (P1.alloc P1.size (.cells #[.int .i64 0, .int .i64 0, .int .i64 0, .int .i64 0] 33)).size); have zc0 : u2.cell? ⟨u1.heap.size, 0, none⟩ = some (.int .i64 0) := ((bcell hv2).1 _ 0 (by simp)).trans (by simp); have zf0 : u2.frozen? ⟨u1.heap.size, 0, none⟩ = false := ((bcell hv2).2 _ 0 (by simp)).trans (by simp); have zc1 : u2.cell? ⟨u1.heap.size, 1, none⟩ = some (.int .i64 0) := ((bcell hv2).1 _ 1 (by simp)).trans (by simp); have zf1 : u2.frozen? ⟨u1.heap.size, 1, none⟩ = false := ((bcell hv2).2 _ 1 (by simp)).trans (by simp); have zc2 : u2.cell? ⟨u1.heap.size, 2, none⟩ = some (.int .i64 0) := ((bcell hv2).1 _ 2 (by simp)).trans (by simp); have zf2 : u2.frozen? ⟨u1.heap.size, 2, none⟩ = false := ((bcell hv2).2 _ 2 (by simp)).trans (by simp); have zc3 : u2.cell? ⟨u1.heap.size, 3, none⟩ = some (.int .i64 0) := ((bcell hv2).1 _ 3 (by simp)).trans (by simp); have zf3 : u2.frozen? ⟨u1.heap.size, 3, none⟩ = false := ((bcell hv2).2 _ 3 (by simp)).trans (by simp)))) | (go_at_call 35; refine (common_some x0 y0 x1 y1 a0 b0 a1 b1 _ nx1 nx2 nx3 nx4 N5.out N6.out).mono ?_; rw [m1.out, m2.out, m3.out, m4.out]; rintro e u3 ⟨rfl, hv3⟩; (first | (have P3 : Below WA.heap.size WA u3 := P2.trans (hv3.mono P2.size); (try (replace zf0 := frozenK zc0 zf0 hv3; replace zc0 := cell_kept zc0 hv3; replace zf1 := frozenK zc1 zf1 hv3; replace zc1 := cell_kept zc1 hv3; replace zf2 := frozenK zc2 zf2 hv3; replace zc2 := cell_kept zc2 hv3; replace zf3 := frozenK zc3 zf3 hv3; replace zc3 := cell_kept zc3 hv3))) | (have P3 : Below WA.heap.size WA u3 := (P2.alloc P2.size (.cells #[.int .i64 0, .int .i64 0, .int .i64 0, .int .i64 0] 33)).trans (hv3.mono (P2.alloc P2.size (.cells #[.int .i64 0, .int .i64 0, .int .i64 0, .int .i64 0] 33)).size); have zc0 : u3.cell? ⟨u2.heap.size, 0, none⟩ = some (.int .i64 0) := ((bcell hv3).1 _ 0 (by simp)).trans (by simp); have zf0 : u3.frozen? ⟨u2.heap.size, 0, none⟩ = false := ((bcell hv3).2 _ 0 (by simp)).trans (by simp); have zc1 : u3.cell? ⟨u2.heap.size, 1, none⟩ = some (.int .i64 0) := ((bcell hv3).1 _ 1 (by simp)).trans (by simp); have zf1 : u3.frozen? ⟨u2.heap.size, 1, none⟩ = false := ((bcell hv3).2 _ 1 (by simp)).trans (by simp); have zc2 : u3.cell? ⟨u2.heap.size, 2, none⟩ = some (.int .i64 0) := ((bcell hv3).1 _ 2 (by simp)).trans (by simp); have zf2 : u3.frozen? ⟨u2.heap.size, 2, none⟩ = false := ((bcell hv3).2 _ 2 (by simp)).trans (by simp); have zc3 : u3.cell? ⟨u2.heap.size, 3, none⟩ = some (.int .i64 0) := ((bcell hv3).1 _ 3 (by simp)).trans (by simp); have zf3 : u3.frozen? ⟨u2.heap.size, 3, none⟩ = false := ((bcell hv3).2 _ 3 (by simp)).trans (by simp)))))
    all_goals
      go_wp2_with fail
      go_meet
      have z1 := P1.size
      have z2 := P2.size
      have z3 := P3.size
      have y2 := hv2.size
      have y3 := hv3.size
      first
        | exact ⟨u3.heap.size, rfl, rfl, P3.size, by simp, P3.alloc P3.size _, by simp, by simp, by simp, by simp⟩
        | exact ⟨WA.heap.size, rfl, rfl, Nat.le_refl _, lt_sets (World.block_lt_of_cell? _ _ zc0) (by simp [World.setCell]), ((((P3.setCell (Nat.le_refl _) _).setCell (Nat.le_refl _) _).setCell (Nat.le_refl _) _).setCell (Nat.le_refl _) _), by go_simp, by go_simp, by go_simp, by go_simp⟩
        | exact ⟨u1.heap.size, rfl, rfl, P1.size, lt_sets (World.block_lt_of_cell? _ _ zc0) (by simp [World.setCell]), ((((P3.setCell P1.size _).setCell P1.size _).setCell P1.size _).setCell P1.size _), by go_simp, by go_simp, by go_simp, by go_simp⟩
        | exact ⟨u2.heap.size, rfl, rfl, P2.size, lt_sets (World.block_lt_of_cell? _ _ zc0) (by simp [World.setCell]), ((((P3.setCell P2.size _).setCell P2.size _).setCell P2.size _).setCell P2.size _), by go_simp, by go_simp, by go_simp, by go_simp⟩
  case rest =>
    clear TOS P0 P0a
    obtain ⟨bc, rfl, rfl, hbc, hbl, hBm, cc0, cc1, cc2, cc3⟩ := hcut
    replace D0 := cell_kept D0 hBm
    replace D1 := cell_kept D1 hBm
    replace D2 := cell_kept D2 hBm
    replace D3 := cell_kept D3 hBm
    replace D4 := cell_kept D4 hBm
    replace D5 := cell_kept D5 hBm
    replace D6 := cell_kept D6 hBm
    replace R0 := cell_kept R0 hBm
    replace R1 := cell_kept R1 hBm
    replace R2 := cell_kept R2 hBm
    replace R3 := cell_kept R3 hBm
    replace M0 := cell_kept M0 hBm
    replace M1 := cell_kept M1 hBm
    replace M2 := cell_kept M2 hBm
    replace M3 := cell_kept M3 hBm
    replace M4 := cell_kept M4 hBm
    replace M5 := cell_kept M5 hBm
    replace M6 := cell_kept M6 hBm
    replace HR := Lib.hid (HR.out.below hBm)
    replace HP := Lib.hid (HP.out.below hBm)
    replace HM := Lib.hid (HM.out.below hBm)
    replace HQ := Lib.hid (HQ.out.below hBm)
    replace hB := hB.trans (hBm.mono hB.size)
    clear hBm hbc
    go_wp2_with fail
    have P0 : Below wc.heap.size wc wc.drew := (Below.refl _ _).drew
    have toS : ∀ W' : World, Below wc.heap.size wc W' → (W'.cell? ⟨w.heap.size, 0, none⟩ = some (.int .i64 x0) ∧ W'.cell? ⟨w.heap.size, 1, none⟩ = some (.int .i64 y0) ∧ W'.cell? ⟨w.heap.size, 2, none⟩ = some (.int .i64 x1) ∧ W'.cell? ⟨w.heap.size, 3, none⟩ = some (.int .i64 y1) ∧ W'.cell? ⟨w.heap.size, 4, none⟩ = some (.int .i64 s) ∧ W'.cell? ⟨w.heap.size, 5, none⟩ = some (.slice A zs.length c) ∧ W'.cell? ⟨w.heap.size, 6, none⟩ = some (.slice B ps.length k) ∧ W'.cell? ⟨br, 0, none⟩ = some (.int .i64 a0) ∧ W'.cell? ⟨br, 1, none⟩ = some (.int .i64 b0) ∧ W'.cell? ⟨br, 2, none⟩ = some (.int .i64 a1) ∧ W'.cell? ⟨br, 3, none⟩ = some (.int .i64 b1) ∧ W'.cell? ⟨ba, 0, none⟩ = some (.int .i64 c0) ∧ W'.cell? ⟨ba, 1, none⟩ = some (.int .i64 d0) ∧ W'.cell? ⟨ba, 2, none⟩ = some (.int .i64 c1) ∧ W'.cell? ⟨ba, 3, none⟩ = some (.int .i64 d1) ∧ W'.cell? ⟨ba, 4, none⟩ = some (.int .i64 s) ∧ W'.cell? ⟨ba, 5, none⟩ = some (.slice E1 zm.length f1) ∧ W'.cell? ⟨ba, 6, none⟩ = some (.slice E2 ps.length f2) ∧ W'.cell? ⟨bc, 0, none⟩ = some (.int .i64 c0) ∧ W'.cell? ⟨bc, 1, none⟩ = some (.int .i64 d0) ∧ W'.cell? ⟨bc, 2, none⟩ = some (.int .i64 c1) ∧ W'.cell? ⟨bc, 3, none⟩ = some (.int .i64 d1)) := fun W' h => ⟨cell_kept D0 h, cell_kept D1 h, cell_kept D2 h, cell_kept D3 h, cell_kept D4 h, cell_kept D5 h, cell_kept D6 h, cell_kept R0 h, cell_kept R1 h, cell_kept R2 h, cell_kept R3 h, cell_kept M0 h, cell_kept M1 h, cell_kept M2 h, cell_kept M3 h, cell_kept M4 h, cell_kept M5 h, cell_kept M6 h, cell_kept cc0 h, cell_kept cc1 h, cell_kept cc2 h, cell_kept cc3 h⟩
    have TOS := Lib.hid toS
    clear toS
    have hzN := hB.size
    refine wp_region_held_drew (S := fun w' => w'.cell? ⟨w.heap.size, 0, none⟩ = some (.int .i64 x0) ∧ w'.cell? ⟨w.heap.size, 1, none⟩ = some (.int .i64 y0) ∧ w'.cell? ⟨w.heap.size, 2, none⟩ = some (.int .i64 x1) ∧ w'.cell? ⟨w.heap.size, 3, none⟩ = some (.int .i64 y1) ∧ w'.cell? ⟨w.heap.size, 4, none⟩ = some (.int .i64 s) ∧ w'.cell? ⟨w.heap.size, 5, none⟩ = some (.slice A zs.length c) ∧ w'.cell? ⟨w.heap.size, 6, none⟩ = some (.slice B ps.length k) ∧ w'.cell? ⟨br, 0, none⟩ = some (.int .i64 a0) ∧ w'.cell? ⟨br, 1, none⟩ = some (.int .i64 b0) ∧ w'.cell? ⟨br, 2, none⟩ = some (.int .i64 a1) ∧ w'.cell? ⟨br, 3, none⟩ = some (.int .i64 b1) ∧ w'.cell? ⟨ba, 0, none⟩ = some (.int .i64 c0) ∧ w'.cell? ⟨ba, 1, none⟩ = some (.int .i64 d0) ∧ w'.cell? ⟨ba, 2, none⟩ = some (.int .i64 c1) ∧ w'.cell? ⟨ba, 3, none⟩ = some (.int .i64 d1) ∧ w'.cell? ⟨ba, 4, none⟩ = some (.int .i64 s) ∧ w'.cell? ⟨ba, 5, none⟩ = some (.slice E1 zm.length f1) ∧ w'.cell? ⟨ba, 6, none⟩ = some (.slice E2 ps.length f2) ∧ w'.cell? ⟨bc, 0, none⟩ = some (.int .i64 c0) ∧ w'.cell? ⟨bc, 1, none⟩ = some (.int .i64 d0) ∧ w'.cell? ⟨bc, 2, none⟩ = some (.int .i64 c1) ∧ w'.cell? ⟨bc, 3, none⟩ = some (.int .i64 d1)) (by kernel_rfl) ?_ (fun hHeld => ?_)
    · (first | (refine TOS.out _ ?_; first | with_reducible exact P3 | with_reducible exact P2 | with_reducible exact P1 | with_reducible exact P0))
    refine wpAnyH_take (i := 0) (oi := _) (v := ?v0) rfl (by kernel_rfl) (by kernel_rfl) (by kernel_rfl) (fun _ _ _ h => h) (Or.inl ⟨by rfl, ?hy0⟩) (by assumption) ?rest0
    case hy0 => (intro w hSw; (try dsimp only at hSw); go_simp <;> with_reducible rfl)
    try simp only [Act.put, List.getElem_toArray, List.getElem_cons_succ, List.getElem_cons_zero, List.setIfInBounds_toArray, List.set_cons_zero, List.set_cons_succ]
    refine wpAnyH_take (i := 1) (oi := _) (v := ?v1) rfl (by kernel_rfl) (by kernel_rfl) (by kernel_rfl) (fun _ _ _ h => h) (Or.inl ⟨by rfl, ?hy1⟩) (by assumption) ?rest1
    case hy1 => (intro w hSw; (try dsimp only at hSw); go_simp <;> with_reducible rfl)
    try simp only [Act.put, List.getElem_toArray, List.getElem_cons_succ, List.getElem_cons_zero, List.setIfInBounds_toArray, List.set_cons_zero, List.set_cons_succ]
    refine wpAnyH_take (i := 3) (oi := _) (v := ?v3) rfl (by kernel_rfl) (by kernel_rfl) (by kernel_rfl) (fun _ _ _ h => h) (Or.inl ⟨by rfl, ?hy3⟩) (by assumption) ?rest3
    case hy3 => (intro w hSw; (try dsimp only at hSw); go_simp <;> with_reducible rfl)
    try simp only [Act.put, List.getElem_toArray, List.getElem_cons_succ, List.getElem_cons_zero, List.setIfInBounds_toArray, List.set_cons_zero, List.set_cons_succ]
    refine wpAnyH_ready (rs := [2]) (by kernel_rfl) (by simp) ?_
    refine AllReadyH.cons (o := _) rfl (fun K hK => ?_) AllReadyH.nil
    go_simp
    (go_at_call 20; refine (box_any c0 d0 c1 d1 _).mono ?_; rintro e v1' ⟨rfl, hq1⟩; have P1 : Below wc.heap.size wc v1' := P0.trans (hq1.mono P0.size))
    refine hK.out _ _ ?_ (fun hHeld => ?_)
    · (first | (refine TOS.out _ ?_; first | with_reducible exact P3 | with_reducible exact P2 | with_reducible exact P1 | with_reducible exact P0))
    clear hK K
    try simp only [Act.put, List.getElem_toArray, List.getElem_cons_succ, List.getElem_cons_zero, List.setIfInBounds_toArray, List.set_cons_zero, List.set_cons_succ]
    refine wpAnyH_take (i := 4) (oi := _) (v := ?v4) rfl (by kernel_rfl) (by kernel_rfl) (by kernel_rfl) (fun _ _ _ h => h) (Or.inl ⟨by rfl, ?hy4⟩) (by assumption) ?rest4
    case hy4 => (intro w hSw; (try dsimp only at hSw); go_simp <;> with_reducible rfl)
    try simp only [Act.put, List.getElem_toArray, List.getElem_cons_succ, List.getElem_cons_zero, List.setIfInBounds_toArray, List.set_cons_zero, List.set_cons_succ]
    refine wpAnyH_take (i := 5) (oi := _) (v := ?v5) rfl (by kernel_rfl) (by kernel_rfl) (by kernel_rfl) (fun _ _ _ h => h) (Or.inl ⟨by rfl, ?hy5⟩) (by assumption) ?rest5
    case hy5 => (intro w hSw; (try dsimp only at hSw); go_simp <;> with_reducible rfl)
    try simp only [Act.put, List.getElem_toArray, List.getElem_cons_succ, List.getElem_cons_zero, List.setIfInBounds_toArray, List.set_cons_zero, List.set_cons_succ]
    refine wpAnyH_take (i := 6) (oi := _) (v := ?v6) rfl (by kernel_rfl) (by kernel_rfl) (by kernel_rfl) (fun _ _ _ h => h) (Or.inl ⟨by rfl, ?hy6⟩) (by assumption) ?rest6
    case hy6 => (intro w hSw; (try dsimp only at hSw); go_simp <;> with_reducible rfl)
    try simp only [Act.put, List.getElem_toArray, List.getElem_cons_succ, List.getElem_cons_zero, List.setIfInBounds_toArray, List.set_cons_zero, List.set_cons_succ]
    refine wpAnyH_ready (rs := [7]) (by kernel_rfl) (by simp) ?_
    refine AllReadyH.cons (o := _) rfl (fun K hK => ?_) AllReadyH.nil
    go_simp
    (go_at_call 15; refine (fitsK_any c0 d0 c1 d1 s E1 f1 zm E2 f2 ps true (by simp [HFm.out]) _).mono ?_; rintro e v2' ⟨rfl, hq2⟩; have P2 : Below wc.heap.size wc v2' := P1.trans (hq2.mono P1.size))
    refine hK.out _ _ ?_ (fun hHeld => ?_)
    · (first | (refine TOS.out _ ?_; first | with_reducible exact P3 | with_reducible exact P2 | with_reducible exact P1 | with_reducible exact P0))
    clear hK K
    try simp only [Act.put, List.getElem_toArray, List.getElem_cons_succ, List.getElem_cons_zero, List.setIfInBounds_toArray, List.set_cons_zero, List.set_cons_succ]
    refine wpAnyH_take (i := 8) (oi := _) (v := ?v8) rfl (by kernel_rfl) (by kernel_rfl) (by kernel_rfl) (fun _ _ _ h => h) (Or.inl ⟨by rfl, ?hy8⟩) (by assumption) ?rest8
    case hy8 => (intro w hSw; (try dsimp only at hSw); go_simp <;> with_reducible rfl)
    try simp only [Act.put, List.getElem_toArray, List.getElem_cons_succ, List.getElem_cons_zero, List.setIfInBounds_toArray, List.set_cons_zero, List.set_cons_succ]
    refine wpAnyH_take (i := 9) (oi := _) (v := ?v9) rfl (by kernel_rfl) (by kernel_rfl) (by kernel_rfl) (fun _ _ _ h => h) (Or.inl ⟨by rfl, ?hy9⟩) (by assumption) ?rest9
    case hy9 => (intro w hSw; (try dsimp only at hSw); go_simp <;> with_reducible rfl)
    try simp only [Act.put, List.getElem_toArray, List.getElem_cons_succ, List.getElem_cons_zero, List.setIfInBounds_toArray, List.set_cons_zero, List.set_cons_succ]
    refine wpAnyH_take (i := 10) (oi := _) (v := ?v10) rfl (by kernel_rfl) (by kernel_rfl) (by kernel_rfl) (fun _ _ _ h => h) (Or.inl ⟨by rfl, ?hy10⟩) (by assumption) ?rest10
    case hy10 => (intro w hSw; (try dsimp only at hSw); go_simp <;> with_reducible rfl)
    try simp only [Act.put, List.getElem_toArray, List.getElem_cons_succ, List.getElem_cons_zero, List.setIfInBounds_toArray, List.set_cons_zero, List.set_cons_succ]
    refine wpAnyH_take (i := 11) (oi := _) (v := ?v11) rfl (by kernel_rfl) (by kernel_rfl) (by kernel_rfl) (fun _ _ _ h => h) (Or.inl ⟨by rfl, ?hy11⟩) (by assumption) ?rest11
    case hy11 => (intro w hSw; (try dsimp only at hSw); go_simp <;> with_reducible rfl)
    try simp only [Act.put, List.getElem_toArray, List.getElem_cons_succ, List.getElem_cons_zero, List.setIfInBounds_toArray, List.set_cons_zero, List.set_cons_succ]
    refine wpAnyH_take (i := 12) (oi := _) (v := ?v12) rfl (by kernel_rfl) (by kernel_rfl) (by kernel_rfl) (fun _ _ _ h => h) (Or.inl ⟨by rfl, ?hy12⟩) (by assumption) ?rest12
    case hy12 => (intro w hSw; (try dsimp only at hSw); go_simp <;> with_reducible rfl)
    try simp only [Act.put, List.getElem_toArray, List.getElem_cons_succ, List.getElem_cons_zero, List.setIfInBounds_toArray, List.set_cons_zero, List.set_cons_succ]
    refine wpAnyH_take (i := 13) (oi := _) (v := ?v13) rfl (by kernel_rfl) (by kernel_rfl) (by kernel_rfl) (fun _ _ _ h => h) (Or.inl ⟨by rfl, ?hy13⟩) (by assumption) ?rest13
    case hy13 => (intro w hSw; (try dsimp only at hSw); go_simp <;> with_reducible rfl)
    try simp only [Act.put, List.getElem_toArray, List.getElem_cons_succ, List.getElem_cons_zero, List.setIfInBounds_toArray, List.set_cons_zero, List.set_cons_succ]
    refine wpAnyH_take (i := 14) (oi := _) (v := ?v14) rfl (by kernel_rfl) (by kernel_rfl) (by kernel_rfl) (fun _ _ _ h => h) (Or.inl ⟨by rfl, ?hy14⟩) (by assumption) ?rest14
    case hy14 => (intro w hSw; (try dsimp only at hSw); go_simp <;> with_reducible rfl)
    try simp only [Act.put, List.getElem_toArray, List.getElem_cons_succ, List.getElem_cons_zero, List.setIfInBounds_toArray, List.set_cons_zero, List.set_cons_succ]
    refine wpAnyH_ready (rs := [15]) (by kernel_rfl) (by simp) ?_
    refine AllReadyH.cons (o := _) rfl (fun K hK => ?_) AllReadyH.nil
    go_simp
    (go_at_call 31; refine (colors_any E2 B f2 k ps _ (HQ.out.below P2) (HP.out.below P2) pl).mono ?_; rintro e v3' ⟨rfl, hq3⟩; have P3 : Below wc.heap.size wc v3' := P2.trans (hq3.mono P2.size))
    refine hK.out _ _ ?_ (fun hHeld => ?_)
    · (first | (refine TOS.out _ ?_; first | with_reducible exact P3 | with_reducible exact P2 | with_reducible exact P1 | with_reducible exact P0))
    clear hK K
    try simp only [Act.put, List.getElem_toArray, List.getElem_cons_succ, List.getElem_cons_zero, List.setIfInBounds_toArray, List.set_cons_zero, List.set_cons_succ]
    refine wpAnyH_take (i := 16) (oi := _) (v := ?v16) rfl (by kernel_rfl) (by kernel_rfl) (by kernel_rfl) (fun _ _ _ h => h) (Or.inl ⟨by rfl, ?hy16⟩) (by assumption) ?rest16
    case hy16 => (intro w hSw; (try dsimp only at hSw); go_simp <;> with_reducible rfl)
    try simp only [Act.put, List.getElem_toArray, List.getElem_cons_succ, List.getElem_cons_zero, List.setIfInBounds_toArray, List.set_cons_zero, List.set_cons_succ]
    refine wpAnyH_take (i := 17) (oi := _) (v := ?v17) rfl (by kernel_rfl) (by kernel_rfl) (by kernel_rfl) (fun _ _ _ h => h) (Or.inl ⟨by rfl, ?hy17⟩) (by assumption) ?rest17
    case hy17 => (intro w hSw; (try dsimp only at hSw); go_simp <;> with_reducible rfl)
    try simp only [Act.put, List.getElem_toArray, List.getElem_cons_succ, List.getElem_cons_zero, List.setIfInBounds_toArray, List.set_cons_zero, List.set_cons_succ]
    refine wpAnyH_done (by kernel_rfl) ?_ _
    have hBn := P3
    clear TOS hHeld P0 hzN
    replace D0 := cell_kept D0 hBn
    replace D1 := cell_kept D1 hBn
    replace D2 := cell_kept D2 hBn
    replace D3 := cell_kept D3 hBn
    replace D4 := cell_kept D4 hBn
    replace D5 := cell_kept D5 hBn
    replace D6 := cell_kept D6 hBn
    replace R0 := cell_kept R0 hBn
    replace R1 := cell_kept R1 hBn
    replace R2 := cell_kept R2 hBn
    replace R3 := cell_kept R3 hBn
    replace M0 := cell_kept M0 hBn
    replace M1 := cell_kept M1 hBn
    replace M2 := cell_kept M2 hBn
    replace M3 := cell_kept M3 hBn
    replace M4 := cell_kept M4 hBn
    replace M5 := cell_kept M5 hBn
    replace M6 := cell_kept M6 hBn
    replace cc0 := cell_kept cc0 hBn
    replace cc1 := cell_kept cc1 hBn
    replace cc2 := cell_kept cc2 hBn
    replace cc3 := cell_kept cc3 hBn
    replace HR := Lib.hid (HR.out.below hBn)
    replace HP := Lib.hid (HP.out.below hBn)
    replace HM := Lib.hid (HM.out.below hBn)
    replace HQ := Lib.hid (HQ.out.below hBn)
    replace hB := hB.trans (hBn.mono hB.size)
    clear hBn hq1 hq2 hq3 P1 P2 P3
    go_wp2_with fail
    have P0 : Below v3'.heap.size v3' v3'.drew := (Below.refl _ _).drew
    have toS : ∀ W' : World, Below v3'.heap.size v3' W' → (W'.cell? ⟨w.heap.size, 0, none⟩ = some (.int .i64 x0) ∧ W'.cell? ⟨w.heap.size, 1, none⟩ = some (.int .i64 y0) ∧ W'.cell? ⟨w.heap.size, 2, none⟩ = some (.int .i64 x1) ∧ W'.cell? ⟨w.heap.size, 3, none⟩ = some (.int .i64 y1) ∧ W'.cell? ⟨w.heap.size, 4, none⟩ = some (.int .i64 s) ∧ W'.cell? ⟨w.heap.size, 5, none⟩ = some (.slice A zs.length c) ∧ W'.cell? ⟨w.heap.size, 6, none⟩ = some (.slice B ps.length k) ∧ W'.cell? ⟨br, 0, none⟩ = some (.int .i64 a0) ∧ W'.cell? ⟨br, 1, none⟩ = some (.int .i64 b0) ∧ W'.cell? ⟨br, 2, none⟩ = some (.int .i64 a1) ∧ W'.cell? ⟨br, 3, none⟩ = some (.int .i64 b1) ∧ W'.cell? ⟨ba, 0, none⟩ = some (.int .i64 c0) ∧ W'.cell? ⟨ba, 1, none⟩ = some (.int .i64 d0) ∧ W'.cell? ⟨ba, 2, none⟩ = some (.int .i64 c1) ∧ W'.cell? ⟨ba, 3, none⟩ = some (.int .i64 d1) ∧ W'.cell? ⟨ba, 4, none⟩ = some (.int .i64 s) ∧ W'.cell? ⟨ba, 5, none⟩ = some (.slice E1 zm.length f1) ∧ W'.cell? ⟨ba, 6, none⟩ = some (.slice E2 ps.length f2) ∧ W'.cell? ⟨bc, 0, none⟩ = some (.int .i64 c0) ∧ W'.cell? ⟨bc, 1, none⟩ = some (.int .i64 d0) ∧ W'.cell? ⟨bc, 2, none⟩ = some (.int .i64 c1) ∧ W'.cell? ⟨bc, 3, none⟩ = some (.int .i64 d1)) := fun W' h => ⟨cell_kept D0 h, cell_kept D1 h, cell_kept D2 h, cell_kept D3 h, cell_kept D4 h, cell_kept D5 h, cell_kept D6 h, cell_kept R0 h, cell_kept R1 h, cell_kept R2 h, cell_kept R3 h, cell_kept M0 h, cell_kept M1 h, cell_kept M2 h, cell_kept M3 h, cell_kept M4 h, cell_kept M5 h, cell_kept M6 h, cell_kept cc0 h, cell_kept cc1 h, cell_kept cc2 h, cell_kept cc3 h⟩
    have TOS := Lib.hid toS
    clear toS
    have hzN := hB.size
    refine wp_region_held_drew (S := fun w' => w'.cell? ⟨w.heap.size, 0, none⟩ = some (.int .i64 x0) ∧ w'.cell? ⟨w.heap.size, 1, none⟩ = some (.int .i64 y0) ∧ w'.cell? ⟨w.heap.size, 2, none⟩ = some (.int .i64 x1) ∧ w'.cell? ⟨w.heap.size, 3, none⟩ = some (.int .i64 y1) ∧ w'.cell? ⟨w.heap.size, 4, none⟩ = some (.int .i64 s) ∧ w'.cell? ⟨w.heap.size, 5, none⟩ = some (.slice A zs.length c) ∧ w'.cell? ⟨w.heap.size, 6, none⟩ = some (.slice B ps.length k) ∧ w'.cell? ⟨br, 0, none⟩ = some (.int .i64 a0) ∧ w'.cell? ⟨br, 1, none⟩ = some (.int .i64 b0) ∧ w'.cell? ⟨br, 2, none⟩ = some (.int .i64 a1) ∧ w'.cell? ⟨br, 3, none⟩ = some (.int .i64 b1) ∧ w'.cell? ⟨ba, 0, none⟩ = some (.int .i64 c0) ∧ w'.cell? ⟨ba, 1, none⟩ = some (.int .i64 d0) ∧ w'.cell? ⟨ba, 2, none⟩ = some (.int .i64 c1) ∧ w'.cell? ⟨ba, 3, none⟩ = some (.int .i64 d1) ∧ w'.cell? ⟨ba, 4, none⟩ = some (.int .i64 s) ∧ w'.cell? ⟨ba, 5, none⟩ = some (.slice E1 zm.length f1) ∧ w'.cell? ⟨ba, 6, none⟩ = some (.slice E2 ps.length f2) ∧ w'.cell? ⟨bc, 0, none⟩ = some (.int .i64 c0) ∧ w'.cell? ⟨bc, 1, none⟩ = some (.int .i64 d0) ∧ w'.cell? ⟨bc, 2, none⟩ = some (.int .i64 c1) ∧ w'.cell? ⟨bc, 3, none⟩ = some (.int .i64 d1)) (by kernel_rfl) ?_ (fun hHeld => ?_)
    · (first | (refine TOS.out _ ?_; first | with_reducible exact P1 | with_reducible exact P0))
    refine wpAnyH_take (i := 0) (oi := _) (v := ?vr2_0) rfl (by kernel_rfl) (by kernel_rfl) (by kernel_rfl) (fun _ _ _ h => h) (Or.inl ⟨by rfl, ?hyr2_0⟩) (by assumption) ?restr2_0
    case hyr2_0 => (intro w hSw; (try dsimp only at hSw); go_simp <;> with_reducible rfl)
    try simp only [Act.put, List.getElem_toArray, List.getElem_cons_succ, List.getElem_cons_zero, List.setIfInBounds_toArray, List.set_cons_zero, List.set_cons_succ]
    refine wpAnyH_take (i := 1) (oi := _) (v := ?vr2_1) rfl (by kernel_rfl) (by kernel_rfl) (by kernel_rfl) (fun _ _ _ h => h) (Or.inl ⟨by rfl, ?hyr2_1⟩) (by assumption) ?restr2_1
    case hyr2_1 => (intro w hSw; (try dsimp only at hSw); go_simp <;> with_reducible rfl)
    try simp only [Act.put, List.getElem_toArray, List.getElem_cons_succ, List.getElem_cons_zero, List.setIfInBounds_toArray, List.set_cons_zero, List.set_cons_succ]
    refine wpAnyH_take (i := 2) (oi := _) (v := ?vr2_2) rfl (by kernel_rfl) (by kernel_rfl) (by kernel_rfl) (fun _ _ _ h => h) (Or.inl ⟨by rfl, ?hyr2_2⟩) (by assumption) ?restr2_2
    case hyr2_2 => (intro w hSw; (try dsimp only at hSw); go_simp <;> with_reducible rfl)
    try simp only [Act.put, List.getElem_toArray, List.getElem_cons_succ, List.getElem_cons_zero, List.setIfInBounds_toArray, List.set_cons_zero, List.set_cons_succ]
    refine wpAnyH_ready (rs := [3]) (by kernel_rfl) (by simp) ?_
    refine AllReadyH.cons (o := _) rfl (fun K hK => ?_) AllReadyH.nil
    go_simp
    (go_at_call 36; refine (insd_any c0 d0 c1 d1 x y false (by simp [hJ.out]) _).mono ?_; rintro e q1' ⟨rfl, hq1⟩; have P1 : Below v3'.heap.size v3' q1' := P0.trans (hq1.mono P0.size))
    refine hK.out _ _ ?_ (fun hHeld => ?_)
    · (first | (refine TOS.out _ ?_; first | with_reducible exact P1 | with_reducible exact P0))
    clear hK K
    try simp only [Act.put, List.getElem_toArray, List.getElem_cons_succ, List.getElem_cons_zero, List.setIfInBounds_toArray, List.set_cons_zero, List.set_cons_succ]
    refine wpAnyH_take (i := 4) (oi := _) (v := ?vr2_4) rfl (by kernel_rfl) (by kernel_rfl) (by kernel_rfl) (fun _ _ _ h => h) (Or.inl ⟨by rfl, ?hyr2_4⟩) (by assumption) ?restr2_4
    case hyr2_4 => (intro w hSw; (try dsimp only at hSw); go_simp <;> with_reducible rfl)
    try simp only [Act.put, List.getElem_toArray, List.getElem_cons_succ, List.getElem_cons_zero, List.setIfInBounds_toArray, List.set_cons_zero, List.set_cons_succ]
    refine wpAnyH_take (i := 5) (oi := _) (v := ?vr2_5) rfl (by kernel_rfl) (by kernel_rfl) (by kernel_rfl) (fun _ _ _ h => h) (Or.inl ⟨by rfl, ?hyr2_5⟩) (by assumption) ?restr2_5
    case hyr2_5 => (intro w hSw; (try dsimp only at hSw); go_simp <;> with_reducible rfl)
    try simp only [Act.put, List.getElem_toArray, List.getElem_cons_succ, List.getElem_cons_zero, List.setIfInBounds_toArray, List.set_cons_zero, List.set_cons_succ]
    refine wpAnyH_take (i := 6) (oi := _) (v := undef) rfl (by kernel_rfl) (by kernel_rfl) (by kernel_rfl) (fun _ _ _ h => h) (Or.inr ⟨by rfl, rfl⟩) (by assumption) ?_
    try simp only [Act.put, List.getElem_toArray, List.getElem_cons_succ, List.getElem_cons_zero, List.setIfInBounds_toArray, List.set_cons_zero, List.set_cons_succ]
    refine wpAnyH_take (i := 7) (oi := _) (v := undef) rfl (by kernel_rfl) (by kernel_rfl) (by kernel_rfl) (fun _ _ _ h => h) (Or.inr ⟨by rfl, rfl⟩) (by assumption) ?_
    try simp only [Act.put, List.getElem_toArray, List.getElem_cons_succ, List.getElem_cons_zero, List.setIfInBounds_toArray, List.set_cons_zero, List.set_cons_succ]
    refine wpAnyH_take (i := 8) (oi := _) (v := undef) rfl (by kernel_rfl) (by kernel_rfl) (by kernel_rfl) (fun _ _ _ h => h) (Or.inr ⟨by rfl, rfl⟩) (by assumption) ?_
    try simp only [Act.put, List.getElem_toArray, List.getElem_cons_succ, List.getElem_cons_zero, List.setIfInBounds_toArray, List.set_cons_zero, List.set_cons_succ]
    refine wpAnyH_take (i := 10) (oi := _) (v := undef) rfl (by kernel_rfl) (by kernel_rfl) (by kernel_rfl) (fun _ _ _ h => h) (Or.inr ⟨by rfl, rfl⟩) (by assumption) ?_
    try simp only [Act.put, List.getElem_toArray, List.getElem_cons_succ, List.getElem_cons_zero, List.setIfInBounds_toArray, List.set_cons_zero, List.set_cons_succ]
    refine wpAnyH_take (i := 11) (oi := _) (v := undef) rfl (by kernel_rfl) (by kernel_rfl) (by kernel_rfl) (fun _ _ _ h => h) (Or.inr ⟨by rfl, rfl⟩) (by assumption) ?_
    try simp only [Act.put, List.getElem_toArray, List.getElem_cons_succ, List.getElem_cons_zero, List.setIfInBounds_toArray, List.set_cons_zero, List.set_cons_succ]
    refine wpAnyH_take (i := 12) (oi := _) (v := undef) rfl (by kernel_rfl) (by kernel_rfl) (by kernel_rfl) (fun _ _ _ h => h) (Or.inr ⟨by rfl, rfl⟩) (by assumption) ?_
    try simp only [Act.put, List.getElem_toArray, List.getElem_cons_succ, List.getElem_cons_zero, List.setIfInBounds_toArray, List.set_cons_zero, List.set_cons_succ]
    refine wpAnyH_ready (rs := [9]) (by kernel_rfl) (by simp) ?_
    refine AllReadyH.cons (o := _) rfl (fun K hK => ?_) AllReadyH.nil
    go_simp
    refine hK.out _ _ ?_ (fun hHeld => ?_)
    · (first | (refine TOS.out _ ?_; first | with_reducible exact P1 | with_reducible exact P0))
    clear hK K
    try simp only [Act.put, List.getElem_toArray, List.getElem_cons_succ, List.getElem_cons_zero, List.setIfInBounds_toArray, List.set_cons_zero, List.set_cons_succ]
    refine wpAnyH_ready (rs := [13]) (by kernel_rfl) (by simp) ?_
    refine AllReadyH.cons (o := _) rfl (fun K hK => ?_) AllReadyH.nil
    go_simp
    refine hK.out _ _ ?_ (fun hHeld => ?_)
    · (first | (refine TOS.out _ ?_; first | with_reducible exact P1 | with_reducible exact P0))
    clear hK K
    try simp only [Act.put, List.getElem_toArray, List.getElem_cons_succ, List.getElem_cons_zero, List.setIfInBounds_toArray, List.set_cons_zero, List.set_cons_succ]
    refine wpAnyH_take (i := 14) (oi := _) (v := undef) rfl (by kernel_rfl) (by kernel_rfl) (by kernel_rfl) (fun _ _ _ h => h) (Or.inr ⟨by rfl, rfl⟩) (by assumption) ?_
    try simp only [Act.put, List.getElem_toArray, List.getElem_cons_succ, List.getElem_cons_zero, List.setIfInBounds_toArray, List.set_cons_zero, List.set_cons_succ]
    refine wpAnyH_take (i := 15) (oi := _) (v := ?vr2_15) rfl (by kernel_rfl) (by kernel_rfl) (by kernel_rfl) (fun _ _ _ h => h) (Or.inl ⟨by rfl, ?hyr2_15⟩) (by assumption) ?restr2_15
    case hyr2_15 => (intro w hSw; (try dsimp only at hSw); go_simp <;> with_reducible rfl)
    try simp only [Act.put, List.getElem_toArray, List.getElem_cons_succ, List.getElem_cons_zero, List.setIfInBounds_toArray, List.set_cons_zero, List.set_cons_succ]
    refine wpAnyH_take (i := 16) (oi := _) (v := ?vr2_16) rfl (by kernel_rfl) (by kernel_rfl) (by kernel_rfl) (fun _ _ _ h => h) (Or.inl ⟨by rfl, ?hyr2_16⟩) (by assumption) ?restr2_16
    case hyr2_16 => (intro w hSw; (try dsimp only at hSw); go_simp <;> with_reducible rfl)
    try simp only [Act.put, List.getElem_toArray, List.getElem_cons_succ, List.getElem_cons_zero, List.setIfInBounds_toArray, List.set_cons_zero, List.set_cons_succ]
    refine wpAnyH_done (by kernel_rfl) ?_ _
    go_wp2
    go_ret
    exact ⟨by simp, hB.trans (P1.mono hzN)⟩

set_option maxRecDepth 100000 in
set_option maxHeartbeats 2000000 in
theorem sub_in (x0 y0 x1 y1 s : Int) (A : Option Addr) (c : Nat) (zs : List Int) (B : Option Addr) (k : Nat) (ps : List (Int × Int × Int × Int)) (a0 b0 a1 b1 x y : Int) (w : World) (hr : Hid (Reads w A zs)) (hl : Small zs) (hn : Hid (A = none → c = 0)) (pr : Hid (PReads w B ps)) (pl : (ps.length : Int) ≤ 2097152) (hF : Hid (Fits x0 y0 x1 y1 s 1 zs.length)) (hN : Hid (Near4 a0 b0 a1 b1)) (c0 d0 c1 d1 : Int) (m1 : Hid (max x0 a0 = c0)) (m2 : Hid (max y0 b0 = d0)) (m3 : Hid (min x1 a1 = c1)) (m4 : Hid (min y1 b1 = d1)) (n5 : c0 < c1) (n6 : d0 < d1) (hJ : Hid (Insd c0 d0 c1 d1 x y)) :
    Calls Try.prog 12 #[.agg #[.int .i64 x0, .int .i64 y0, .int .i64 x1, .int .i64 y1, .int .i64 s, .slice A zs.length c, .slice B ps.length k], .agg #[.int .i64 a0, .int .i64 b0, .int .i64 a1, .int .i64 b1], .int .i64 x, .int .i64 y] w fun e w' => e = .returned (.bool true) ∧ Below w.heap.size w w' := by
  have hW : Hid (Within c0 d0 c1 d1 x0 y0 x1 y1) := by unfold Hid; rw [← m1.out, ← m2.out, ← m3.out, ← m4.out]; exact within_of _ _ _ _ _ _ _ _
  have N5 : Hid (max x0 a0 < min x1 a1) := by unfold Hid; rw [m1.out, m3.out]; exact n5
  have N6 : Hid (max y0 b0 < min y1 b1) := by unfold Hid; rw [m2.out, m4.out]; exact n6
  obtain ⟨nx1, nx2, nx3, nx4⟩ : x0 < x1 ∧ y0 < y1 ∧ a0 < a1 ∧ b0 < b1 := by have := N5.out; have := N6.out; omega
  have hI0 : Hid (Insd x0 y0 x1 y1 c0 d0) := hW.out.insd ⟨Int.le_refl _, n5, Int.le_refl _, n6⟩
  obtain ⟨q1, q2, q3, q4⟩ : -4398046511104 ≤ d0 - y0 ∧ d0 - y0 ≤ 4398046511104 ∧ -4398046511104 ≤ c0 - x0 ∧ c0 - x0 ≤ 4398046511104 := near_point hF.out hI0.out
  obtain ⟨p1, p2⟩ : -2305843009213693952 ≤ (d0 - y0) * s ∧ (d0 - y0) * s ≤ 2305843009213693952 := (by have := hF.out.prods hI0.out; omega)
  obtain ⟨m, hK, hk⟩ := hF.out.place (z := 1) rfl hI0.out
  have HFm : Hid (Fits c0 d0 c1 d1 s 1 (zs.drop m).length) := by unfold Hid; rw [List.length_drop]; exact fits_sub hF.out hW.out n5 n6 hK (by omega)
  have HL : Hid ((zs.drop m).length = zs.length - m) := List.length_drop
  have hlm := drop_small hl m
  have hI : Hid (Insd x0 y0 x1 y1 x y) := hW.out.insd hJ.out
  obtain ⟨r1, r2, r3, r4⟩ : -4398046511104 ≤ y - d0 ∧ y - d0 ≤ 4398046511104 ∧ -4398046511104 ≤ x - c0 ∧ x - c0 ≤ 4398046511104 := near_point HFm.out hJ.out
  obtain ⟨t1, t2⟩ : -2305843009213693952 ≤ (y - d0) * s ∧ (y - d0) * s ≤ 2305843009213693952 := (by have := HFm.out.prods hJ.out; omega)
  obtain ⟨s1, s2, s3, s4⟩ : -4398046511104 ≤ y - y0 ∧ y - y0 ≤ 4398046511104 ∧ -4398046511104 ≤ x - x0 ∧ x - x0 ≤ 4398046511104 := near_point hF.out hI.out
  obtain ⟨z1, z2⟩ : -2305843009213693952 ≤ (y - y0) * s ∧ (y - y0) * s ≤ 2305843009213693952 := (by have := hF.out.prods hI.out; omega)
  obtain ⟨j, hj, hjn⟩ := HFm.out.place (z := 1) rfl hJ.out
  have HKJ : Hid ((y - y0) * s + (x - x0) = ((m + j : Nat) : Int)) := by
    have h := offs_split c0 d0 x0 y0 s x y
    rw [hK, hj] at h
    unfold Hid; omega
  have HJ : Hid ((y - d0) * s + (x - c0) = j) := by unfold Hid; omega
  have hjl : m + j < zs.length := by rw [HL.out] at hjn; omega
  obtain ⟨v, HV⟩ : ∃ v, Hid (zs.getD (m + j) 0 = v) := ⟨_, rfl⟩
  have HVm : Hid ((zs.drop m).getD j 0 = v) := by unfold Hid; rw [getD_drop]; exact HV.out
  have hjm : j < (zs.drop m).length := by omega
  clear hj
  rw [Int.mul_one] at hK
  have HK := Lib.hid hK
  have Hk : Hid (m < zs.length) := by unfold Hid; omega
  obtain ⟨zm, HY⟩ : ∃ z, zs.drop m = z := ⟨_, rfl⟩
  rw [HY] at HFm HL hlm HVm hjm
  replace HY := Lib.hid HY
  clear hK hk
  have hB : Below w.heap.size w ((w.alloc (.cells #[.int .i64 x0, .int .i64 y0, .int .i64 x1, .int .i64 y1, .int .i64 s, .slice A zs.length c, .slice B ps.length k] 27)).alloc (.cells #[.int .i64 a0, .int .i64 b0, .int .i64 a1, .int .i64 b1] 23)) := ((Below.refl _ _).alloc (Nat.le_refl _) _).alloc (by simp) _
  have D0 : ((w.alloc (.cells #[.int .i64 x0, .int .i64 y0, .int .i64 x1, .int .i64 y1, .int .i64 s, .slice A zs.length c, .slice B ps.length k] 27)).alloc (.cells #[.int .i64 a0, .int .i64 b0, .int .i64 a1, .int .i64 b1] 23)).cell? ⟨w.heap.size, 0, none⟩ = some (.int .i64 x0) := by first | (simp; done) | go_simp
  have D1 : ((w.alloc (.cells #[.int .i64 x0, .int .i64 y0, .int .i64 x1, .int .i64 y1, .int .i64 s, .slice A zs.length c, .slice B ps.length k] 27)).alloc (.cells #[.int .i64 a0, .int .i64 b0, .int .i64 a1, .int .i64 b1] 23)).cell? ⟨w.heap.size, 1, none⟩ = some (.int .i64 y0) := by first | (simp; done) | go_simp
  have D2 : ((w.alloc (.cells #[.int .i64 x0, .int .i64 y0, .int .i64 x1, .int .i64 y1, .int .i64 s, .slice A zs.length c, .slice B ps.length k] 27)).alloc (.cells #[.int .i64 a0, .int .i64 b0, .int .i64 a1, .int .i64 b1] 23)).cell? ⟨w.heap.size, 2, none⟩ = some (.int .i64 x1) := by first | (simp; done) | go_simp
  have D3 : ((w.alloc (.cells #[.int .i64 x0, .int .i64 y0, .int .i64 x1, .int .i64 y1, .int .i64 s, .slice A zs.length c, .slice B ps.length k] 27)).alloc (.cells #[.int .i64 a0, .int .i64 b0, .int .i64 a1, .int .i64 b1] 23)).cell? ⟨w.heap.size, 3, none⟩ = some (.int .i64 y1) := by first | (simp; done) | go_simp
  have D4 : ((w.alloc (.cells #[.int .i64 x0, .int .i64 y0, .int .i64 x1, .int .i64 y1, .int .i64 s, .slice A zs.length c, .slice B ps.length k] 27)).alloc (.cells #[.int .i64 a0, .int .i64 b0, .int .i64 a1, .int .i64 b1] 23)).cell? ⟨w.heap.size, 4, none⟩ = some (.int .i64 s) := by first | (simp; done) | go_simp
  have D5 : ((w.alloc (.cells #[.int .i64 x0, .int .i64 y0, .int .i64 x1, .int .i64 y1, .int .i64 s, .slice A zs.length c, .slice B ps.length k] 27)).alloc (.cells #[.int .i64 a0, .int .i64 b0, .int .i64 a1, .int .i64 b1] 23)).cell? ⟨w.heap.size, 5, none⟩ = some (.slice A zs.length c) := by first | (simp; done) | go_simp
  have D6 : ((w.alloc (.cells #[.int .i64 x0, .int .i64 y0, .int .i64 x1, .int .i64 y1, .int .i64 s, .slice A zs.length c, .slice B ps.length k] 27)).alloc (.cells #[.int .i64 a0, .int .i64 b0, .int .i64 a1, .int .i64 b1] 23)).cell? ⟨w.heap.size, 6, none⟩ = some (.slice B ps.length k) := by first | (simp; done) | go_simp
  have R0 : ((w.alloc (.cells #[.int .i64 x0, .int .i64 y0, .int .i64 x1, .int .i64 y1, .int .i64 s, .slice A zs.length c, .slice B ps.length k] 27)).alloc (.cells #[.int .i64 a0, .int .i64 b0, .int .i64 a1, .int .i64 b1] 23)).cell? ⟨w.heap.size + 1, 0, none⟩ = some (.int .i64 a0) := by first | (simp; done) | go_simp
  have R1 : ((w.alloc (.cells #[.int .i64 x0, .int .i64 y0, .int .i64 x1, .int .i64 y1, .int .i64 s, .slice A zs.length c, .slice B ps.length k] 27)).alloc (.cells #[.int .i64 a0, .int .i64 b0, .int .i64 a1, .int .i64 b1] 23)).cell? ⟨w.heap.size + 1, 1, none⟩ = some (.int .i64 b0) := by first | (simp; done) | go_simp
  have R2 : ((w.alloc (.cells #[.int .i64 x0, .int .i64 y0, .int .i64 x1, .int .i64 y1, .int .i64 s, .slice A zs.length c, .slice B ps.length k] 27)).alloc (.cells #[.int .i64 a0, .int .i64 b0, .int .i64 a1, .int .i64 b1] 23)).cell? ⟨w.heap.size + 1, 2, none⟩ = some (.int .i64 a1) := by first | (simp; done) | go_simp
  have R3 : ((w.alloc (.cells #[.int .i64 x0, .int .i64 y0, .int .i64 x1, .int .i64 y1, .int .i64 s, .slice A zs.length c, .slice B ps.length k] 27)).alloc (.cells #[.int .i64 a0, .int .i64 b0, .int .i64 a1, .int .i64 b1] 23)).cell? ⟨w.heap.size + 1, 3, none⟩ = some (.int .i64 b1) := by first | (simp; done) | go_simp
  have HR := Lib.hid (hr.out.below hB)
  have HP := Lib.hid (pr.out.below hB)
  go_enter Try.func12, Try.ntmps12
  go_wp2_with fail
  generalize (w.alloc (.cells #[.int .i64 x0, .int .i64 y0, .int .i64 x1, .int .i64 y1, .int .i64 s, .slice A zs.length c, .slice B ps.length k] 27)).alloc (.cells #[.int .i64 a0, .int .i64 b0, .int .i64 a1, .int .i64 b1] 23) = W0 at *
  generalize w.heap.size + 1 = br at *
  refine (fitsK_any x0 y0 x1 y1 s A c zs B k ps true (by simp [hF.out]) _).mono ?_
  rintro e w1 ⟨rfl, hb1⟩
  replace D0 := cell_kept D0 hb1
  replace D1 := cell_kept D1 hb1
  replace D2 := cell_kept D2 hb1
  replace D3 := cell_kept D3 hb1
  replace D4 := cell_kept D4 hb1
  replace D5 := cell_kept D5 hb1
  replace D6 := cell_kept D6 hb1
  replace R0 := cell_kept R0 hb1
  replace R1 := cell_kept R1 hb1
  replace R2 := cell_kept R2 hb1
  replace R3 := cell_kept R3 hb1
  replace HR := Lib.hid (HR.out.below hb1)
  replace HP := Lib.hid (HP.out.below hb1)
  replace hB := hB.trans (hb1.mono hB.size)
  clear hb1
  go_wp2_with fail
  refine (box_any a0 b0 a1 b1 _).mono ?_
  rintro e w2 ⟨rfl, hb2⟩
  replace D0 := cell_kept D0 hb2
  replace D1 := cell_kept D1 hb2
  replace D2 := cell_kept D2 hb2
  replace D3 := cell_kept D3 hb2
  replace D4 := cell_kept D4 hb2
  replace D5 := cell_kept D5 hb2
  replace D6 := cell_kept D6 hb2
  replace R0 := cell_kept R0 hb2
  replace R1 := cell_kept R1 hb2
  replace R2 := cell_kept R2 hb2
  replace R3 := cell_kept R3 hb2
  replace HR := Lib.hid (HR.out.below hb2)
  replace HP := Lib.hid (HP.out.below hb2)
  replace hB := hB.trans (hb2.mono hB.size)
  clear hb2
  go_wp2_with fail
  refine (near4_any a0 b0 a1 b1 true (by simp [hN.out]) _).mono ?_
  rintro e w3 ⟨rfl, hb3⟩
  replace D0 := cell_kept D0 hb3
  replace D1 := cell_kept D1 hb3
  replace D2 := cell_kept D2 hb3
  replace D3 := cell_kept D3 hb3
  replace D4 := cell_kept D4 hb3
  replace D5 := cell_kept D5 hb3
  replace D6 := cell_kept D6 hb3
  replace R0 := cell_kept R0 hb3
  replace R1 := cell_kept R1 hb3
  replace R2 := cell_kept R2 hb3
  replace R3 := cell_kept R3 hb3
  replace HR := Lib.hid (HR.out.below hb3)
  replace HP := Lib.hid (HP.out.below hb3)
  replace hB := hB.trans (hb3.mono hB.size)
  clear hb3
  go_wp2_with fail
  refine (implSub_some x0 y0 x1 y1 s A c zs B k ps a0 b0 a1 b1 _ HR hl hn HP pl c0 d0 c1 d1 m m1 m2 m3 m4 n5 n6 HK Hk q1 q2 q3 q4 p1 p2 zm HY HL hlm).mono ?_
  rintro e w4 ⟨E1, f1, E2, f2, rfl, ho1, ho2, hb4⟩
  have HM := Lib.hid (Reads.of_own ho1)
  have HN1 := Lib.hid (own_nil ho1)
  have HQ := Lib.hid (PReads.of_own ho2)
  clear ho1 ho2
  replace D0 := cell_kept D0 hb4
  replace D1 := cell_kept D1 hb4
  replace D2 := cell_kept D2 hb4
  replace D3 := cell_kept D3 hb4
  replace D4 := cell_kept D4 hb4
  replace D5 := cell_kept D5 hb4
  replace D6 := cell_kept D6 hb4
  replace R0 := cell_kept R0 hb4
  replace R1 := cell_kept R1 hb4
  replace R2 := cell_kept R2 hb4
  replace R3 := cell_kept R3 hb4
  replace HR := Lib.hid (HR.out.below hb4)
  replace HP := Lib.hid (HP.out.below hb4)
  replace hB := hB.trans (hb4.mono hB.size)
  clear hb4
  have aw : Below w4.heap.size w4 (w4.alloc (.cells #[.int .i64 c0, .int .i64 d0, .int .i64 c1, .int .i64 d1, .int .i64 s, .slice E1 zm.length f1, .slice E2 ps.length f2] 27)) := (Below.refl _ _).alloc (Nat.le_refl _) _
  replace D0 := cell_kept D0 aw
  replace D1 := cell_kept D1 aw
  replace D2 := cell_kept D2 aw
  replace D3 := cell_kept D3 aw
  replace D4 := cell_kept D4 aw
  replace D5 := cell_kept D5 aw
  replace D6 := cell_kept D6 aw
  replace R0 := cell_kept R0 aw
  replace R1 := cell_kept R1 aw
  replace R2 := cell_kept R2 aw
  replace R3 := cell_kept R3 aw
  replace HR := Lib.hid (HR.out.below aw)
  replace HP := Lib.hid (HP.out.below aw)
  replace HM := Lib.hid (HM.out.below aw)
  replace HQ := Lib.hid (HQ.out.below aw)
  replace hB := hB.trans (aw.mono hB.size)
  have M0 : (w4.alloc (.cells #[.int .i64 c0, .int .i64 d0, .int .i64 c1, .int .i64 d1, .int .i64 s, .slice E1 zm.length f1, .slice E2 ps.length f2] 27)).cell? ⟨w4.heap.size, 0, none⟩ = some (.int .i64 c0) := by simp
  have M1 : (w4.alloc (.cells #[.int .i64 c0, .int .i64 d0, .int .i64 c1, .int .i64 d1, .int .i64 s, .slice E1 zm.length f1, .slice E2 ps.length f2] 27)).cell? ⟨w4.heap.size, 1, none⟩ = some (.int .i64 d0) := by simp
  have M2 : (w4.alloc (.cells #[.int .i64 c0, .int .i64 d0, .int .i64 c1, .int .i64 d1, .int .i64 s, .slice E1 zm.length f1, .slice E2 ps.length f2] 27)).cell? ⟨w4.heap.size, 2, none⟩ = some (.int .i64 c1) := by simp
  have M3 : (w4.alloc (.cells #[.int .i64 c0, .int .i64 d0, .int .i64 c1, .int .i64 d1, .int .i64 s, .slice E1 zm.length f1, .slice E2 ps.length f2] 27)).cell? ⟨w4.heap.size, 3, none⟩ = some (.int .i64 d1) := by simp
  have M4 : (w4.alloc (.cells #[.int .i64 c0, .int .i64 d0, .int .i64 c1, .int .i64 d1, .int .i64 s, .slice E1 zm.length f1, .slice E2 ps.length f2] 27)).cell? ⟨w4.heap.size, 4, none⟩ = some (.int .i64 s) := by simp
  have M5 : (w4.alloc (.cells #[.int .i64 c0, .int .i64 d0, .int .i64 c1, .int .i64 d1, .int .i64 s, .slice E1 zm.length f1, .slice E2 ps.length f2] 27)).cell? ⟨w4.heap.size, 5, none⟩ = some (.slice E1 zm.length f1) := by simp
  have M6 : (w4.alloc (.cells #[.int .i64 c0, .int .i64 d0, .int .i64 c1, .int .i64 d1, .int .i64 s, .slice E1 zm.length f1, .slice E2 ps.length f2] 27)).cell? ⟨w4.heap.size, 6, none⟩ = some (.slice E2 ps.length f2) := by simp
  have hltWA : w4.heap.size < (w4.alloc (.cells #[.int .i64 c0, .int .i64 d0, .int .i64 c1, .int .i64 d1, .int .i64 s, .slice E1 zm.length f1, .slice E2 ps.length f2] 27)).heap.size := by simp
  clear aw
  go_wp2_with fail
  generalize w4.alloc (.cells #[.int .i64 c0, .int .i64 d0, .int .i64 c1, .int .i64 d1, .int .i64 s, .slice E1 zm.length f1, .slice E2 ps.length f2] 27) = WA at *
  generalize w4.heap.size = ba at *
  have tok1 : True := trivial
  go_upto_region 4 with fail
  have P0 : Below WA.heap.size WA WA.drew := (Below.refl _ _).drew
  have P0a : Below WA.heap.size WA (WA.alloc (.cells #[.int .i64 0, .int .i64 0, .int .i64 0, .int .i64 0] 33)).drew := ((Below.refl _ _).alloc (Nat.le_refl _) _).drew
  have toS : ∀ W' : World, Below WA.heap.size WA W' → (W'.cell? ⟨w.heap.size, 0, none⟩ = some (.int .i64 x0) ∧ W'.cell? ⟨w.heap.size, 1, none⟩ = some (.int .i64 y0) ∧ W'.cell? ⟨w.heap.size, 2, none⟩ = some (.int .i64 x1) ∧ W'.cell? ⟨w.heap.size, 3, none⟩ = some (.int .i64 y1) ∧ W'.cell? ⟨w.heap.size, 4, none⟩ = some (.int .i64 s) ∧ W'.cell? ⟨w.heap.size, 5, none⟩ = some (.slice A zs.length c) ∧ W'.cell? ⟨w.heap.size, 6, none⟩ = some (.slice B ps.length k) ∧ W'.cell? ⟨br, 0, none⟩ = some (.int .i64 a0) ∧ W'.cell? ⟨br, 1, none⟩ = some (.int .i64 b0) ∧ W'.cell? ⟨br, 2, none⟩ = some (.int .i64 a1) ∧ W'.cell? ⟨br, 3, none⟩ = some (.int .i64 b1)) := fun W' h => ⟨cell_kept D0 h, cell_kept D1 h, cell_kept D2 h, cell_kept D3 h, cell_kept D4 h, cell_kept D5 h, cell_kept D6 h, cell_kept R0 h, cell_kept R1 h, cell_kept R2 h, cell_kept R3 h⟩
  have TOS := Lib.hid toS
  clear toS
  go_cut [11, 12] (fun pp qq wx => ∃ bc : Nat, pp = .pointer (some ⟨bc, 0, none⟩) ∧ qq = .bool true ∧ WA.heap.size ≤ bc ∧ bc < wx.heap.size ∧ Below WA.heap.size WA wx ∧ wx.cell? ⟨bc, 0, none⟩ = some (.int .i64 c0) ∧ wx.cell? ⟨bc, 1, none⟩ = some (.int .i64 d0) ∧ wx.cell? ⟨bc, 2, none⟩ = some (.int .i64 c1) ∧ wx.cell? ⟨bc, 3, none⟩ = some (.int .i64 d1))
  case first =>
    go_region_held3 (fun w' => w'.cell? ⟨w.heap.size, 0, none⟩ = some (.int .i64 x0) ∧ w'.cell? ⟨w.heap.size, 1, none⟩ = some (.int .i64 y0) ∧ w'.cell? ⟨w.heap.size, 2, none⟩ = some (.int .i64 x1) ∧ w'.cell? ⟨w.heap.size, 3, none⟩ = some (.int .i64 y1) ∧ w'.cell? ⟨w.heap.size, 4, none⟩ = some (.int .i64 s) ∧ w'.cell? ⟨w.heap.size, 5, none⟩ = some (.slice A zs.length c) ∧ w'.cell? ⟨w.heap.size, 6, none⟩ = some (.slice B ps.length k) ∧ w'.cell? ⟨br, 0, none⟩ = some (.int .i64 a0) ∧ w'.cell? ⟨br, 1, none⟩ = some (.int .i64 b0) ∧ w'.cell? ⟨br, 2, none⟩ = some (.int .i64 a1) ∧ w'.cell? ⟨br, 3, none⟩ = some (.int .i64 b1))
      ((refine TOS.out _ ?_; first | with_reducible exact P0 | with_reducible exact P0a | with_reducible exact P1 | with_reducible exact P1.alloc P1.size _ | with_reducible exact P2 | with_reducible exact P2.alloc P2.size _ | with_reducible exact P3 | with_reducible exact P3.alloc P3.size _ | with_reducible exact ((((P3.setCell (Nat.le_refl _) _).setCell (Nat.le_refl _) _).setCell (Nat.le_refl _) _).setCell (Nat.le_refl _) _) | with_reducible exact ((((P3.setCell P1.size _).setCell P1.size _).setCell P1.size _).setCell P1.size _) | with_reducible exact ((((P3.setCell P2.size _).setCell P2.size _).setCell P2.size _).setCell P2.size _)))
      (first | (go_at_call 20; have _t := tok1; refine (box_any x0 y0 x1 y1 _).mono ?_; rintro e u1 ⟨rfl, hv1⟩; clear tok1; (first | (have P1 : Below WA.heap.size WA u1 := P0.trans (hv1.mono P0.size); skip) | (have P1 : Below WA.heap.size WA u1 := P0a.trans (hv1.mono P0a.size); have zc0 : u1.cell? ⟨WA.heap.size, 0, none⟩ = some (.int .i64 0) := ((bcell hv1).1 _ 0 (by simp)).trans (by simp); have zf0 : u1.frozen? ⟨WA.heap.size, 0, none⟩ = false := ((bcell hv1).2 _ 0 (by simp)).trans (by simp); have zc1 : u1.cell? ⟨WA.heap.size, 1, none⟩ = some (.int .i64 0) := ((bcell hv1).1 _ 1 (by simp)).trans (by simp); have zf1 : u1.frozen? ⟨WA.heap.size, 1, none⟩ = false := ((bcell hv1).2 _ 1 (by simp)).trans (by simp); have zc2 : u1.cell? ⟨WA.heap.size, 2, none⟩ = some (.int .i64 0) := ((bcell hv1).1 _ 2 (by simp)).trans (by simp); have zf2 : u1.frozen? ⟨WA.heap.size, 2, none⟩ = false := ((bcell hv1).2 _ 2 (by simp)).trans (by simp); have zc3 : u1.cell? ⟨WA.heap.size, 3, none⟩ = some (.int .i64 0) := ((bcell hv1).1 _ 3 (by simp)).trans (by simp); have zf3 : u1.frozen? ⟨WA.heap.size, 3, none⟩ = false := ((bcell hv1).2 _ 3 (by simp)).trans (by simp)))) | (go_at_call 20; refine (box_any a0 b0 a1 b1 _).mono ?_; rintro e u2 ⟨rfl, hv2⟩; (first | (have P2 : Below WA.heap.size WA u2 := P1.trans (hv2.mono P1.size); (try (replace zf0 := frozenK zc0 zf0 hv2; replace zc0 := cell_kept zc0 hv2; replace zf1 := frozenK zc1 zf1 hv2; replace zc1 := cell_kept zc1 hv2; replace zf2 := frozenK zc2 zf2 hv2; replace zc2 := cell_kept zc2 hv2; replace zf3 := frozenK zc3 zf3 hv2; replace zc3 := cell_kept zc3 hv2))) | (have P2 : Below WA.heap.size WA u2 := (P1.alloc P1.size (.cells #[.int .i64 0, .int .i64 0, .int .i64 0, .int .i64 0] 33)).trans (hv2.mono (P1.alloc P1.size (.cells #[.int .i64 0, .int .i64 0, .int .i64 0, .int .i64 0] 33)).size); have zc0 : u2.cell? ⟨u1.heap.size, 0, none⟩ = some (.int .i64 0) := ((bcell hv2).1 _ 0 (by simp)).trans (by simp); have zf0 : u2.frozen? ⟨u1.heap.size, 0, none⟩ = false := ((bcell hv2).2 _ 0 (by simp)).trans (by simp); have zc1 : u2.cell? ⟨u1.heap.size, 1, none⟩ = some (.int .i64 0) := ((bcell hv2).1 _ 1 (by simp)).trans (by simp); have zf1 : u2.frozen? ⟨u1.heap.size, 1, none⟩ = false := ((bcell hv2).2 _ 1 (by simp)).trans (by simp); have zc2 : u2.cell? ⟨u1.heap.size, 2, none⟩ = some (.int .i64 0) := ((bcell hv2).1 _ 2 (by simp)).trans (by simp); have zf2 : u2.frozen? ⟨u1.heap.size, 2, none⟩ = false := ((bcell hv2).2 _ 2 (by simp)).trans (by simp); have zc3 : u2.cell? ⟨u1.heap.size, 3, none⟩ = some (.int .i64 0) := ((bcell hv2).1 _ 3 (by simp)).trans (by simp); have zf3 : u2.frozen? ⟨u1.heap.size, 3, none⟩ = false := ((bcell hv2).2 _ 3 (by simp)).trans (by simp)))) | (go_at_call 35; refine (common_some x0 y0 x1 y1 a0 b0 a1 b1 _ nx1 nx2 nx3 nx4 N5.out N6.out).mono ?_; rw [m1.out, m2.out, m3.out, m4.out]; rintro e u3 ⟨rfl, hv3⟩; (first | (have P3 : Below WA.heap.size WA u3 := P2.trans (hv3.mono P2.size); (try (replace zf0 := frozenK zc0 zf0 hv3; replace zc0 := cell_kept zc0 hv3; replace zf1 := frozenK zc1 zf1 hv3; replace zc1 := cell_kept zc1 hv3; replace zf2 := frozenK zc2 zf2 hv3; replace zc2 := cell_kept zc2 hv3; replace zf3 := frozenK zc3 zf3 hv3; replace zc3 := cell_kept zc3 hv3))) | (have P3 : Below WA.heap.size WA u3 := (P2.alloc P2.size (.cells #[.int .i64 0, .int .i64 0, .int .i64 0, .int .i64 0] 33)).trans (hv3.mono (P2.alloc P2.size (.cells #[.int .i64 0, .int .i64 0, .int .i64 0, .int .i64 0] 33)).size); have zc0 : u3.cell? ⟨u2.heap.size, 0, none⟩ = some (.int .i64 0) := ((bcell hv3).1 _ 0 (by simp)).trans (by simp); have zf0 : u3.frozen? ⟨u2.heap.size, 0, none⟩ = false := ((bcell hv3).2 _ 0 (by simp)).trans (by simp); have zc1 : u3.cell? ⟨u2.heap.size, 1, none⟩ = some (.int .i64 0) := ((bcell hv3).1 _ 1 (by simp)).trans (by simp); have zf1 : u3.frozen? ⟨u2.heap.size, 1, none⟩ = false := ((bcell hv3).2 _ 1 (by simp)).trans (by simp); have zc2 : u3.cell? ⟨u2.heap.size, 2, none⟩ = some (.int .i64 0) := ((bcell hv3).1 _ 2 (by simp)).trans (by simp); have zf2 : u3.frozen? ⟨u2.heap.size, 2, none⟩ = false := ((bcell hv3).2 _ 2 (by simp)).trans (by simp); have zc3 : u3.cell? ⟨u2.heap.size, 3, none⟩ = some (.int .i64 0) := ((bcell hv3).1 _ 3 (by simp)).trans (by simp); have zf3 : u3.frozen? ⟨u2.heap.size, 3, none⟩ = false := ((bcell hv3).2 _ 3 (by simp)).trans (by simp)))))
    all_goals
      go_wp2_with fail
      go_meet
      have z1 := P1.size
      have z2 := P2.size
      have z3 := P3.size
      have y2 := hv2.size
      have y3 := hv3.size
      first
        | exact ⟨u3.heap.size, rfl, rfl, P3.size, by simp, P3.alloc P3.size _, by simp, by simp, by simp, by simp⟩
        | exact ⟨WA.heap.size, rfl, rfl, Nat.le_refl _, lt_sets (World.block_lt_of_cell? _ _ zc0) (by simp [World.setCell]), ((((P3.setCell (Nat.le_refl _) _).setCell (Nat.le_refl _) _).setCell (Nat.le_refl _) _).setCell (Nat.le_refl _) _), by go_simp, by go_simp, by go_simp, by go_simp⟩
        | exact ⟨u1.heap.size, rfl, rfl, P1.size, lt_sets (World.block_lt_of_cell? _ _ zc0) (by simp [World.setCell]), ((((P3.setCell P1.size _).setCell P1.size _).setCell P1.size _).setCell P1.size _), by go_simp, by go_simp, by go_simp, by go_simp⟩
        | exact ⟨u2.heap.size, rfl, rfl, P2.size, lt_sets (World.block_lt_of_cell? _ _ zc0) (by simp [World.setCell]), ((((P3.setCell P2.size _).setCell P2.size _).setCell P2.size _).setCell P2.size _), by go_simp, by go_simp, by go_simp, by go_simp⟩
  case rest =>
    clear TOS P0 P0a
    obtain ⟨bc, rfl, rfl, hbc, hbl, hBm, cc0, cc1, cc2, cc3⟩ := hcut
    replace D0 := cell_kept D0 hBm
    replace D1 := cell_kept D1 hBm
    replace D2 := cell_kept D2 hBm
    replace D3 := cell_kept D3 hBm
    replace D4 := cell_kept D4 hBm
    replace D5 := cell_kept D5 hBm
    replace D6 := cell_kept D6 hBm
    replace R0 := cell_kept R0 hBm
    replace R1 := cell_kept R1 hBm
    replace R2 := cell_kept R2 hBm
    replace R3 := cell_kept R3 hBm
    replace M0 := cell_kept M0 hBm
    replace M1 := cell_kept M1 hBm
    replace M2 := cell_kept M2 hBm
    replace M3 := cell_kept M3 hBm
    replace M4 := cell_kept M4 hBm
    replace M5 := cell_kept M5 hBm
    replace M6 := cell_kept M6 hBm
    replace HR := Lib.hid (HR.out.below hBm)
    replace HP := Lib.hid (HP.out.below hBm)
    replace HM := Lib.hid (HM.out.below hBm)
    replace HQ := Lib.hid (HQ.out.below hBm)
    replace hB := hB.trans (hBm.mono hB.size)
    clear hBm hbc
    go_wp2_with fail
    have P0 : Below wc.heap.size wc wc.drew := (Below.refl _ _).drew
    have toS : ∀ W' : World, Below wc.heap.size wc W' → (W'.cell? ⟨w.heap.size, 0, none⟩ = some (.int .i64 x0) ∧ W'.cell? ⟨w.heap.size, 1, none⟩ = some (.int .i64 y0) ∧ W'.cell? ⟨w.heap.size, 2, none⟩ = some (.int .i64 x1) ∧ W'.cell? ⟨w.heap.size, 3, none⟩ = some (.int .i64 y1) ∧ W'.cell? ⟨w.heap.size, 4, none⟩ = some (.int .i64 s) ∧ W'.cell? ⟨w.heap.size, 5, none⟩ = some (.slice A zs.length c) ∧ W'.cell? ⟨w.heap.size, 6, none⟩ = some (.slice B ps.length k) ∧ W'.cell? ⟨br, 0, none⟩ = some (.int .i64 a0) ∧ W'.cell? ⟨br, 1, none⟩ = some (.int .i64 b0) ∧ W'.cell? ⟨br, 2, none⟩ = some (.int .i64 a1) ∧ W'.cell? ⟨br, 3, none⟩ = some (.int .i64 b1) ∧ W'.cell? ⟨ba, 0, none⟩ = some (.int .i64 c0) ∧ W'.cell? ⟨ba, 1, none⟩ = some (.int .i64 d0) ∧ W'.cell? ⟨ba, 2, none⟩ = some (.int .i64 c1) ∧ W'.cell? ⟨ba, 3, none⟩ = some (.int .i64 d1) ∧ W'.cell? ⟨ba, 4, none⟩ = some (.int .i64 s) ∧ W'.cell? ⟨ba, 5, none⟩ = some (.slice E1 zm.length f1) ∧ W'.cell? ⟨ba, 6, none⟩ = some (.slice E2 ps.length f2) ∧ W'.cell? ⟨bc, 0, none⟩ = some (.int .i64 c0) ∧ W'.cell? ⟨bc, 1, none⟩ = some (.int .i64 d0) ∧ W'.cell? ⟨bc, 2, none⟩ = some (.int .i64 c1) ∧ W'.cell? ⟨bc, 3, none⟩ = some (.int .i64 d1)) := fun W' h => ⟨cell_kept D0 h, cell_kept D1 h, cell_kept D2 h, cell_kept D3 h, cell_kept D4 h, cell_kept D5 h, cell_kept D6 h, cell_kept R0 h, cell_kept R1 h, cell_kept R2 h, cell_kept R3 h, cell_kept M0 h, cell_kept M1 h, cell_kept M2 h, cell_kept M3 h, cell_kept M4 h, cell_kept M5 h, cell_kept M6 h, cell_kept cc0 h, cell_kept cc1 h, cell_kept cc2 h, cell_kept cc3 h⟩
    have TOS := Lib.hid toS
    clear toS
    have hzN := hB.size
    refine wp_region_held_drew (S := fun w' => w'.cell? ⟨w.heap.size, 0, none⟩ = some (.int .i64 x0) ∧ w'.cell? ⟨w.heap.size, 1, none⟩ = some (.int .i64 y0) ∧ w'.cell? ⟨w.heap.size, 2, none⟩ = some (.int .i64 x1) ∧ w'.cell? ⟨w.heap.size, 3, none⟩ = some (.int .i64 y1) ∧ w'.cell? ⟨w.heap.size, 4, none⟩ = some (.int .i64 s) ∧ w'.cell? ⟨w.heap.size, 5, none⟩ = some (.slice A zs.length c) ∧ w'.cell? ⟨w.heap.size, 6, none⟩ = some (.slice B ps.length k) ∧ w'.cell? ⟨br, 0, none⟩ = some (.int .i64 a0) ∧ w'.cell? ⟨br, 1, none⟩ = some (.int .i64 b0) ∧ w'.cell? ⟨br, 2, none⟩ = some (.int .i64 a1) ∧ w'.cell? ⟨br, 3, none⟩ = some (.int .i64 b1) ∧ w'.cell? ⟨ba, 0, none⟩ = some (.int .i64 c0) ∧ w'.cell? ⟨ba, 1, none⟩ = some (.int .i64 d0) ∧ w'.cell? ⟨ba, 2, none⟩ = some (.int .i64 c1) ∧ w'.cell? ⟨ba, 3, none⟩ = some (.int .i64 d1) ∧ w'.cell? ⟨ba, 4, none⟩ = some (.int .i64 s) ∧ w'.cell? ⟨ba, 5, none⟩ = some (.slice E1 zm.length f1) ∧ w'.cell? ⟨ba, 6, none⟩ = some (.slice E2 ps.length f2) ∧ w'.cell? ⟨bc, 0, none⟩ = some (.int .i64 c0) ∧ w'.cell? ⟨bc, 1, none⟩ = some (.int .i64 d0) ∧ w'.cell? ⟨bc, 2, none⟩ = some (.int .i64 c1) ∧ w'.cell? ⟨bc, 3, none⟩ = some (.int .i64 d1)) (by kernel_rfl) ?_ (fun hHeld => ?_)
    · (first | (refine TOS.out _ ?_; first | with_reducible exact P3 | with_reducible exact P2 | with_reducible exact P1 | with_reducible exact P0))
    refine wpAnyH_take (i := 0) (oi := _) (v := ?vr3_0) rfl (by kernel_rfl) (by kernel_rfl) (by kernel_rfl) (fun _ _ _ h => h) (Or.inl ⟨by rfl, ?hyr3_0⟩) (by assumption) ?restr3_0
    case hyr3_0 => (intro w hSw; (try dsimp only at hSw); go_simp <;> with_reducible rfl)
    try simp only [Act.put, List.getElem_toArray, List.getElem_cons_succ, List.getElem_cons_zero, List.setIfInBounds_toArray, List.set_cons_zero, List.set_cons_succ]
    refine wpAnyH_take (i := 1) (oi := _) (v := ?vr3_1) rfl (by kernel_rfl) (by kernel_rfl) (by kernel_rfl) (fun _ _ _ h => h) (Or.inl ⟨by rfl, ?hyr3_1⟩) (by assumption) ?restr3_1
    case hyr3_1 => (intro w hSw; (try dsimp only at hSw); go_simp <;> with_reducible rfl)
    try simp only [Act.put, List.getElem_toArray, List.getElem_cons_succ, List.getElem_cons_zero, List.setIfInBounds_toArray, List.set_cons_zero, List.set_cons_succ]
    refine wpAnyH_take (i := 3) (oi := _) (v := ?vr3_3) rfl (by kernel_rfl) (by kernel_rfl) (by kernel_rfl) (fun _ _ _ h => h) (Or.inl ⟨by rfl, ?hyr3_3⟩) (by assumption) ?restr3_3
    case hyr3_3 => (intro w hSw; (try dsimp only at hSw); go_simp <;> with_reducible rfl)
    try simp only [Act.put, List.getElem_toArray, List.getElem_cons_succ, List.getElem_cons_zero, List.setIfInBounds_toArray, List.set_cons_zero, List.set_cons_succ]
    refine wpAnyH_ready (rs := [2]) (by kernel_rfl) (by simp) ?_
    refine AllReadyH.cons (o := _) rfl (fun K hK => ?_) AllReadyH.nil
    go_simp
    (go_at_call 20; refine (box_any c0 d0 c1 d1 _).mono ?_; rintro e v1' ⟨rfl, hq1⟩; have P1 : Below wc.heap.size wc v1' := P0.trans (hq1.mono P0.size))
    refine hK.out _ _ ?_ (fun hHeld => ?_)
    · (first | (refine TOS.out _ ?_; first | with_reducible exact P3 | with_reducible exact P2 | with_reducible exact P1 | with_reducible exact P0))
    clear hK K
    try simp only [Act.put, List.getElem_toArray, List.getElem_cons_succ, List.getElem_cons_zero, List.setIfInBounds_toArray, List.set_cons_zero, List.set_cons_succ]
    refine wpAnyH_take (i := 4) (oi := _) (v := ?vr3_4) rfl (by kernel_rfl) (by kernel_rfl) (by kernel_rfl) (fun _ _ _ h => h) (Or.inl ⟨by rfl, ?hyr3_4⟩) (by assumption) ?restr3_4
    case hyr3_4 => (intro w hSw; (try dsimp only at hSw); go_simp <;> with_reducible rfl)
    try simp only [Act.put, List.getElem_toArray, List.getElem_cons_succ, List.getElem_cons_zero, List.setIfInBounds_toArray, List.set_cons_zero, List.set_cons_succ]
    refine wpAnyH_take (i := 5) (oi := _) (v := ?vr3_5) rfl (by kernel_rfl) (by kernel_rfl) (by kernel_rfl) (fun _ _ _ h => h) (Or.inl ⟨by rfl, ?hyr3_5⟩) (by assumption) ?restr3_5
    case hyr3_5 => (intro w hSw; (try dsimp only at hSw); go_simp <;> with_reducible rfl)
    try simp only [Act.put, List.getElem_toArray, List.getElem_cons_succ, List.getElem_cons_zero, List.setIfInBounds_toArray, List.set_cons_zero, List.set_cons_succ]
    refine wpAnyH_take (i := 6) (oi := _) (v := ?vr3_6) rfl (by kernel_rfl) (by kernel_rfl) (by kernel_rfl) (fun _ _ _ h => h) (Or.inl ⟨by rfl, ?hyr3_6⟩) (by assumption) ?restr3_6
    case hyr3_6 => (intro w hSw; (try dsimp only at hSw); go_simp <;> with_reducible rfl)
    try simp only [Act.put, List.getElem_toArray, List.getElem_cons_succ, List.getElem_cons_zero, List.setIfInBounds_toArray, List.set_cons_zero, List.set_cons_succ]
    refine wpAnyH_ready (rs := [7]) (by kernel_rfl) (by simp) ?_
    refine AllReadyH.cons (o := _) rfl (fun K hK => ?_) AllReadyH.nil
    go_simp
    (go_at_call 15; refine (fitsK_any c0 d0 c1 d1 s E1 f1 zm E2 f2 ps true (by simp [HFm.out]) _).mono ?_; rintro e v2' ⟨rfl, hq2⟩; have P2 : Below wc.heap.size wc v2' := P1.trans (hq2.mono P1.size))
    refine hK.out _ _ ?_ (fun hHeld => ?_)
    · (first | (refine TOS.out _ ?_; first | with_reducible exact P3 | with_reducible exact P2 | with_reducible exact P1 | with_reducible exact P0))
    clear hK K
    try simp only [Act.put, List.getElem_toArray, List.getElem_cons_succ, List.getElem_cons_zero, List.setIfInBounds_toArray, List.set_cons_zero, List.set_cons_succ]
    refine wpAnyH_take (i := 8) (oi := _) (v := ?vr3_8) rfl (by kernel_rfl) (by kernel_rfl) (by kernel_rfl) (fun _ _ _ h => h) (Or.inl ⟨by rfl, ?hyr3_8⟩) (by assumption) ?restr3_8
    case hyr3_8 => (intro w hSw; (try dsimp only at hSw); go_simp <;> with_reducible rfl)
    try simp only [Act.put, List.getElem_toArray, List.getElem_cons_succ, List.getElem_cons_zero, List.setIfInBounds_toArray, List.set_cons_zero, List.set_cons_succ]
    refine wpAnyH_take (i := 9) (oi := _) (v := ?vr3_9) rfl (by kernel_rfl) (by kernel_rfl) (by kernel_rfl) (fun _ _ _ h => h) (Or.inl ⟨by rfl, ?hyr3_9⟩) (by assumption) ?restr3_9
    case hyr3_9 => (intro w hSw; (try dsimp only at hSw); go_simp <;> with_reducible rfl)
    try simp only [Act.put, List.getElem_toArray, List.getElem_cons_succ, List.getElem_cons_zero, List.setIfInBounds_toArray, List.set_cons_zero, List.set_cons_succ]
    refine wpAnyH_take (i := 10) (oi := _) (v := ?vr3_10) rfl (by kernel_rfl) (by kernel_rfl) (by kernel_rfl) (fun _ _ _ h => h) (Or.inl ⟨by rfl, ?hyr3_10⟩) (by assumption) ?restr3_10
    case hyr3_10 => (intro w hSw; (try dsimp only at hSw); go_simp <;> with_reducible rfl)
    try simp only [Act.put, List.getElem_toArray, List.getElem_cons_succ, List.getElem_cons_zero, List.setIfInBounds_toArray, List.set_cons_zero, List.set_cons_succ]
    refine wpAnyH_take (i := 11) (oi := _) (v := ?vr3_11) rfl (by kernel_rfl) (by kernel_rfl) (by kernel_rfl) (fun _ _ _ h => h) (Or.inl ⟨by rfl, ?hyr3_11⟩) (by assumption) ?restr3_11
    case hyr3_11 => (intro w hSw; (try dsimp only at hSw); go_simp <;> with_reducible rfl)
    try simp only [Act.put, List.getElem_toArray, List.getElem_cons_succ, List.getElem_cons_zero, List.setIfInBounds_toArray, List.set_cons_zero, List.set_cons_succ]
    refine wpAnyH_take (i := 12) (oi := _) (v := ?vr3_12) rfl (by kernel_rfl) (by kernel_rfl) (by kernel_rfl) (fun _ _ _ h => h) (Or.inl ⟨by rfl, ?hyr3_12⟩) (by assumption) ?restr3_12
    case hyr3_12 => (intro w hSw; (try dsimp only at hSw); go_simp <;> with_reducible rfl)
    try simp only [Act.put, List.getElem_toArray, List.getElem_cons_succ, List.getElem_cons_zero, List.setIfInBounds_toArray, List.set_cons_zero, List.set_cons_succ]
    refine wpAnyH_take (i := 13) (oi := _) (v := ?vr3_13) rfl (by kernel_rfl) (by kernel_rfl) (by kernel_rfl) (fun _ _ _ h => h) (Or.inl ⟨by rfl, ?hyr3_13⟩) (by assumption) ?restr3_13
    case hyr3_13 => (intro w hSw; (try dsimp only at hSw); go_simp <;> with_reducible rfl)
    try simp only [Act.put, List.getElem_toArray, List.getElem_cons_succ, List.getElem_cons_zero, List.setIfInBounds_toArray, List.set_cons_zero, List.set_cons_succ]
    refine wpAnyH_take (i := 14) (oi := _) (v := ?vr3_14) rfl (by kernel_rfl) (by kernel_rfl) (by kernel_rfl) (fun _ _ _ h => h) (Or.inl ⟨by rfl, ?hyr3_14⟩) (by assumption) ?restr3_14
    case hyr3_14 => (intro w hSw; (try dsimp only at hSw); go_simp <;> with_reducible rfl)
    try simp only [Act.put, List.getElem_toArray, List.getElem_cons_succ, List.getElem_cons_zero, List.setIfInBounds_toArray, List.set_cons_zero, List.set_cons_succ]
    refine wpAnyH_ready (rs := [15]) (by kernel_rfl) (by simp) ?_
    refine AllReadyH.cons (o := _) rfl (fun K hK => ?_) AllReadyH.nil
    go_simp
    (go_at_call 31; refine (colors_any E2 B f2 k ps _ (HQ.out.below P2) (HP.out.below P2) pl).mono ?_; rintro e v3' ⟨rfl, hq3⟩; have P3 : Below wc.heap.size wc v3' := P2.trans (hq3.mono P2.size))
    refine hK.out _ _ ?_ (fun hHeld => ?_)
    · (first | (refine TOS.out _ ?_; first | with_reducible exact P3 | with_reducible exact P2 | with_reducible exact P1 | with_reducible exact P0))
    clear hK K
    try simp only [Act.put, List.getElem_toArray, List.getElem_cons_succ, List.getElem_cons_zero, List.setIfInBounds_toArray, List.set_cons_zero, List.set_cons_succ]
    refine wpAnyH_take (i := 16) (oi := _) (v := ?vr3_16) rfl (by kernel_rfl) (by kernel_rfl) (by kernel_rfl) (fun _ _ _ h => h) (Or.inl ⟨by rfl, ?hyr3_16⟩) (by assumption) ?restr3_16
    case hyr3_16 => (intro w hSw; (try dsimp only at hSw); go_simp <;> with_reducible rfl)
    try simp only [Act.put, List.getElem_toArray, List.getElem_cons_succ, List.getElem_cons_zero, List.setIfInBounds_toArray, List.set_cons_zero, List.set_cons_succ]
    refine wpAnyH_take (i := 17) (oi := _) (v := ?vr3_17) rfl (by kernel_rfl) (by kernel_rfl) (by kernel_rfl) (fun _ _ _ h => h) (Or.inl ⟨by rfl, ?hyr3_17⟩) (by assumption) ?restr3_17
    case hyr3_17 => (intro w hSw; (try dsimp only at hSw); go_simp <;> with_reducible rfl)
    try simp only [Act.put, List.getElem_toArray, List.getElem_cons_succ, List.getElem_cons_zero, List.setIfInBounds_toArray, List.set_cons_zero, List.set_cons_succ]
    refine wpAnyH_done (by kernel_rfl) ?_ _
    have hBn := P3
    clear TOS hHeld P0 hzN
    replace D0 := cell_kept D0 hBn
    replace D1 := cell_kept D1 hBn
    replace D2 := cell_kept D2 hBn
    replace D3 := cell_kept D3 hBn
    replace D4 := cell_kept D4 hBn
    replace D5 := cell_kept D5 hBn
    replace D6 := cell_kept D6 hBn
    replace R0 := cell_kept R0 hBn
    replace R1 := cell_kept R1 hBn
    replace R2 := cell_kept R2 hBn
    replace R3 := cell_kept R3 hBn
    replace M0 := cell_kept M0 hBn
    replace M1 := cell_kept M1 hBn
    replace M2 := cell_kept M2 hBn
    replace M3 := cell_kept M3 hBn
    replace M4 := cell_kept M4 hBn
    replace M5 := cell_kept M5 hBn
    replace M6 := cell_kept M6 hBn
    replace cc0 := cell_kept cc0 hBn
    replace cc1 := cell_kept cc1 hBn
    replace cc2 := cell_kept cc2 hBn
    replace cc3 := cell_kept cc3 hBn
    replace HR := Lib.hid (HR.out.below hBn)
    replace HP := Lib.hid (HP.out.below hBn)
    replace HM := Lib.hid (HM.out.below hBn)
    replace HQ := Lib.hid (HQ.out.below hBn)
    replace hB := hB.trans (hBn.mono hB.size)
    clear hBn hq1 hq2 hq3 P1 P2 P3
    go_wp2_with fail
    have P0 : Below v3'.heap.size v3' v3'.drew := (Below.refl _ _).drew
    have toS : ∀ W' : World, Below v3'.heap.size v3' W' → (W'.cell? ⟨w.heap.size, 0, none⟩ = some (.int .i64 x0) ∧ W'.cell? ⟨w.heap.size, 1, none⟩ = some (.int .i64 y0) ∧ W'.cell? ⟨w.heap.size, 2, none⟩ = some (.int .i64 x1) ∧ W'.cell? ⟨w.heap.size, 3, none⟩ = some (.int .i64 y1) ∧ W'.cell? ⟨w.heap.size, 4, none⟩ = some (.int .i64 s) ∧ W'.cell? ⟨w.heap.size, 5, none⟩ = some (.slice A zs.length c) ∧ W'.cell? ⟨w.heap.size, 6, none⟩ = some (.slice B ps.length k) ∧ W'.cell? ⟨br, 0, none⟩ = some (.int .i64 a0) ∧ W'.cell? ⟨br, 1, none⟩ = some (.int .i64 b0) ∧ W'.cell? ⟨br, 2, none⟩ = some (.int .i64 a1) ∧ W'.cell? ⟨br, 3, none⟩ = some (.int .i64 b1) ∧ W'.cell? ⟨ba, 0, none⟩ = some (.int .i64 c0) ∧ W'.cell? ⟨ba, 1, none⟩ = some (.int .i64 d0) ∧ W'.cell? ⟨ba, 2, none⟩ = some (.int .i64 c1) ∧ W'.cell? ⟨ba, 3, none⟩ = some (.int .i64 d1) ∧ W'.cell? ⟨ba, 4, none⟩ = some (.int .i64 s) ∧ W'.cell? ⟨ba, 5, none⟩ = some (.slice E1 zm.length f1) ∧ W'.cell? ⟨ba, 6, none⟩ = some (.slice E2 ps.length f2) ∧ W'.cell? ⟨bc, 0, none⟩ = some (.int .i64 c0) ∧ W'.cell? ⟨bc, 1, none⟩ = some (.int .i64 d0) ∧ W'.cell? ⟨bc, 2, none⟩ = some (.int .i64 c1) ∧ W'.cell? ⟨bc, 3, none⟩ = some (.int .i64 d1)) := fun W' h => ⟨cell_kept D0 h, cell_kept D1 h, cell_kept D2 h, cell_kept D3 h, cell_kept D4 h, cell_kept D5 h, cell_kept D6 h, cell_kept R0 h, cell_kept R1 h, cell_kept R2 h, cell_kept R3 h, cell_kept M0 h, cell_kept M1 h, cell_kept M2 h, cell_kept M3 h, cell_kept M4 h, cell_kept M5 h, cell_kept M6 h, cell_kept cc0 h, cell_kept cc1 h, cell_kept cc2 h, cell_kept cc3 h⟩
    have TOS := Lib.hid toS
    clear toS
    have hzN := hB.size
    refine wp_region_held_drew (S := fun w' => w'.cell? ⟨w.heap.size, 0, none⟩ = some (.int .i64 x0) ∧ w'.cell? ⟨w.heap.size, 1, none⟩ = some (.int .i64 y0) ∧ w'.cell? ⟨w.heap.size, 2, none⟩ = some (.int .i64 x1) ∧ w'.cell? ⟨w.heap.size, 3, none⟩ = some (.int .i64 y1) ∧ w'.cell? ⟨w.heap.size, 4, none⟩ = some (.int .i64 s) ∧ w'.cell? ⟨w.heap.size, 5, none⟩ = some (.slice A zs.length c) ∧ w'.cell? ⟨w.heap.size, 6, none⟩ = some (.slice B ps.length k) ∧ w'.cell? ⟨br, 0, none⟩ = some (.int .i64 a0) ∧ w'.cell? ⟨br, 1, none⟩ = some (.int .i64 b0) ∧ w'.cell? ⟨br, 2, none⟩ = some (.int .i64 a1) ∧ w'.cell? ⟨br, 3, none⟩ = some (.int .i64 b1) ∧ w'.cell? ⟨ba, 0, none⟩ = some (.int .i64 c0) ∧ w'.cell? ⟨ba, 1, none⟩ = some (.int .i64 d0) ∧ w'.cell? ⟨ba, 2, none⟩ = some (.int .i64 c1) ∧ w'.cell? ⟨ba, 3, none⟩ = some (.int .i64 d1) ∧ w'.cell? ⟨ba, 4, none⟩ = some (.int .i64 s) ∧ w'.cell? ⟨ba, 5, none⟩ = some (.slice E1 zm.length f1) ∧ w'.cell? ⟨ba, 6, none⟩ = some (.slice E2 ps.length f2) ∧ w'.cell? ⟨bc, 0, none⟩ = some (.int .i64 c0) ∧ w'.cell? ⟨bc, 1, none⟩ = some (.int .i64 d0) ∧ w'.cell? ⟨bc, 2, none⟩ = some (.int .i64 c1) ∧ w'.cell? ⟨bc, 3, none⟩ = some (.int .i64 d1)) (by kernel_rfl) ?_ (fun hHeld => ?_)
    · (first | (refine TOS.out _ ?_; first | with_reducible exact P3 | with_reducible exact P2 | with_reducible exact P1 | with_reducible exact P0))
    refine wpAnyH_take (i := 0) (oi := _) (v := ?vr4_0) rfl (by kernel_rfl) (by kernel_rfl) (by kernel_rfl) (fun _ _ _ h => h) (Or.inl ⟨by rfl, ?hyr4_0⟩) (by assumption) ?restr4_0
    case hyr4_0 => (intro w hSw; (try dsimp only at hSw); go_simp <;> with_reducible rfl)
    try simp only [Act.put, List.getElem_toArray, List.getElem_cons_succ, List.getElem_cons_zero, List.setIfInBounds_toArray, List.set_cons_zero, List.set_cons_succ]
    refine wpAnyH_take (i := 1) (oi := _) (v := ?vr4_1) rfl (by kernel_rfl) (by kernel_rfl) (by kernel_rfl) (fun _ _ _ h => h) (Or.inl ⟨by rfl, ?hyr4_1⟩) (by assumption) ?restr4_1
    case hyr4_1 => (intro w hSw; (try dsimp only at hSw); go_simp <;> with_reducible rfl)
    try simp only [Act.put, List.getElem_toArray, List.getElem_cons_succ, List.getElem_cons_zero, List.setIfInBounds_toArray, List.set_cons_zero, List.set_cons_succ]
    refine wpAnyH_take (i := 2) (oi := _) (v := ?vr4_2) rfl (by kernel_rfl) (by kernel_rfl) (by kernel_rfl) (fun _ _ _ h => h) (Or.inl ⟨by rfl, ?hyr4_2⟩) (by assumption) ?restr4_2
    case hyr4_2 => (intro w hSw; (try dsimp only at hSw); go_simp <;> with_reducible rfl)
    try simp only [Act.put, List.getElem_toArray, List.getElem_cons_succ, List.getElem_cons_zero, List.setIfInBounds_toArray, List.set_cons_zero, List.set_cons_succ]
    refine wpAnyH_ready (rs := [3]) (by kernel_rfl) (by simp) ?_
    refine AllReadyH.cons (o := _) rfl (fun K hK => ?_) AllReadyH.nil
    go_simp
    (go_at_call 36; refine (insd_any c0 d0 c1 d1 x y true (by simp [hJ.out]) _).mono ?_; rintro e q1' ⟨rfl, hq1⟩; have P1 : Below v3'.heap.size v3' q1' := P0.trans (hq1.mono P0.size))
    refine hK.out _ _ ?_ (fun hHeld => ?_)
    · (first | (refine TOS.out _ ?_; first | with_reducible exact P3 | with_reducible exact P2 | with_reducible exact P1 | with_reducible exact P0))
    clear hK K
    try simp only [Act.put, List.getElem_toArray, List.getElem_cons_succ, List.getElem_cons_zero, List.setIfInBounds_toArray, List.set_cons_zero, List.set_cons_succ]
    refine wpAnyH_take (i := 4) (oi := _) (v := ?vr4_4) rfl (by kernel_rfl) (by kernel_rfl) (by kernel_rfl) (fun _ _ _ h => h) (Or.inl ⟨by rfl, ?hyr4_4⟩) (by assumption) ?restr4_4
    case hyr4_4 => (intro w hSw; (try dsimp only at hSw); go_simp <;> with_reducible rfl)
    try simp only [Act.put, List.getElem_toArray, List.getElem_cons_succ, List.getElem_cons_zero, List.setIfInBounds_toArray, List.set_cons_zero, List.set_cons_succ]
    refine wpAnyH_take (i := 5) (oi := _) (v := ?vr4_5) rfl (by kernel_rfl) (by kernel_rfl) (by kernel_rfl) (fun _ _ _ h => h) (Or.inl ⟨by rfl, ?hyr4_5⟩) (by assumption) ?restr4_5
    case hyr4_5 => (intro w hSw; (try dsimp only at hSw); go_simp <;> with_reducible rfl)
    try simp only [Act.put, List.getElem_toArray, List.getElem_cons_succ, List.getElem_cons_zero, List.setIfInBounds_toArray, List.set_cons_zero, List.set_cons_succ]
    refine wpAnyH_take (i := 6) (oi := _) (v := ?vr4_6) rfl (by kernel_rfl) (by kernel_rfl) (by kernel_rfl) (fun _ _ _ h => h) (Or.inl ⟨by rfl, ?hyr4_6⟩) (by assumption) ?restr4_6
    case hyr4_6 => (intro w hSw; (try dsimp only at hSw); go_simp <;> with_reducible rfl)
    try simp only [Act.put, List.getElem_toArray, List.getElem_cons_succ, List.getElem_cons_zero, List.setIfInBounds_toArray, List.set_cons_zero, List.set_cons_succ]
    refine wpAnyH_take (i := 7) (oi := _) (v := ?vr4_7) rfl (by kernel_rfl) (by kernel_rfl) (by kernel_rfl) (fun _ _ _ h => h) (Or.inl ⟨by rfl, ?hyr4_7⟩) (by assumption) ?restr4_7
    case hyr4_7 => (intro w hSw; (try dsimp only at hSw); go_simp <;> with_reducible rfl)
    try simp only [Act.put, List.getElem_toArray, List.getElem_cons_succ, List.getElem_cons_zero, List.setIfInBounds_toArray, List.set_cons_zero, List.set_cons_succ]
    refine wpAnyH_take (i := 8) (oi := _) (v := ?vr4_8) rfl (by kernel_rfl) (by kernel_rfl) (by kernel_rfl) (fun _ _ _ h => h) (Or.inl ⟨by rfl, ?hyr4_8⟩) (by assumption) ?restr4_8
    case hyr4_8 => (intro w hSw; (try dsimp only at hSw); go_simp <;> with_reducible rfl)
    try simp only [Act.put, List.getElem_toArray, List.getElem_cons_succ, List.getElem_cons_zero, List.setIfInBounds_toArray, List.set_cons_zero, List.set_cons_succ]
    refine wpAnyH_take (i := 10) (oi := _) (v := ?vr4_10) rfl (by kernel_rfl) (by kernel_rfl) (by kernel_rfl) (fun _ _ _ h => h) (Or.inl ⟨by rfl, ?hyr4_10⟩) (by assumption) ?restr4_10
    case hyr4_10 => (intro w hSw; (try dsimp only at hSw); go_simp <;> with_reducible rfl)
    try simp only [Act.put, List.getElem_toArray, List.getElem_cons_succ, List.getElem_cons_zero, List.setIfInBounds_toArray, List.set_cons_zero, List.set_cons_succ]
    refine wpAnyH_take (i := 11) (oi := _) (v := ?vr4_11) rfl (by kernel_rfl) (by kernel_rfl) (by kernel_rfl) (fun _ _ _ h => h) (Or.inl ⟨by rfl, ?hyr4_11⟩) (by assumption) ?restr4_11
    case hyr4_11 => (intro w hSw; (try dsimp only at hSw); go_simp <;> with_reducible rfl)
    try simp only [Act.put, List.getElem_toArray, List.getElem_cons_succ, List.getElem_cons_zero, List.setIfInBounds_toArray, List.set_cons_zero, List.set_cons_succ]
    refine wpAnyH_take (i := 12) (oi := _) (v := ?vr4_12) rfl (by kernel_rfl) (by kernel_rfl) (by kernel_rfl) (fun _ _ _ h => h) (Or.inl ⟨by rfl, ?hyr4_12⟩) (by assumption) ?restr4_12
    case hyr4_12 => (intro w hSw; (try dsimp only at hSw); go_simp <;> with_reducible rfl)
    try simp only [Act.put, List.getElem_toArray, List.getElem_cons_succ, List.getElem_cons_zero, List.setIfInBounds_toArray, List.set_cons_zero, List.set_cons_succ]
    refine wpAnyH_ready (rs := [9]) (by kernel_rfl) (by simp) ?_
    refine AllReadyH.cons (o := _) rfl (fun K hK => ?_) AllReadyH.nil
    go_simp
    (go_at_call 22; refine (implIndex_in c0 d0 c1 d1 s E1 f1 zm E2 f2 ps x y _ (show Hid _ from HM.out.below P1) hlm HN1 (show Hid _ from HQ.out.below P1) pl j v hJ r1 r2 r3 r4 t1 t2 HJ hjm HVm).mono ?_; rintro e q2' ⟨rfl, hq2⟩; have P2 : Below v3'.heap.size v3' q2' := P1.trans (hq2.mono P1.size))
    refine hK.out _ _ ?_ (fun hHeld => ?_)
    · (first | (refine TOS.out _ ?_; first | with_reducible exact P3 | with_reducible exact P2 | with_reducible exact P1 | with_reducible exact P0))
    clear hK K
    try simp only [Act.put, List.getElem_toArray, List.getElem_cons_succ, List.getElem_cons_zero, List.setIfInBounds_toArray, List.set_cons_zero, List.set_cons_succ]
    refine wpAnyH_ready (rs := [13]) (by kernel_rfl) (by simp) ?_
    refine AllReadyH.cons (o := _) rfl (fun K hK => ?_) AllReadyH.nil
    go_simp
    (go_at_call 22; refine (implIndex_in x0 y0 x1 y1 s A c zs B k ps x y _ (show Hid _ from HR.out.below P2) hl hn (show Hid _ from HP.out.below P2) pl (m + j) v hI s1 s2 s3 s4 z1 z2 HKJ hjl HV).mono ?_; rintro e q3' ⟨rfl, hq3⟩; have P3 : Below v3'.heap.size v3' q3' := P2.trans (hq3.mono P2.size))
    refine hK.out _ _ ?_ (fun hHeld => ?_)
    · (first | (refine TOS.out _ ?_; first | with_reducible exact P3 | with_reducible exact P2 | with_reducible exact P1 | with_reducible exact P0))
    clear hK K
    try simp only [Act.put, List.getElem_toArray, List.getElem_cons_succ, List.getElem_cons_zero, List.setIfInBounds_toArray, List.set_cons_zero, List.set_cons_succ]
    refine wpAnyH_take (i := 14) (oi := _) (v := ?vr4_14) rfl (by kernel_rfl) (by kernel_rfl) (by kernel_rfl) (fun _ _ _ h => h) (Or.inl ⟨by rfl, ?hyr4_14⟩) (by assumption) ?restr4_14
    case hyr4_14 => (intro w hSw; (try dsimp only at hSw); go_simp <;> with_reducible rfl)
    try simp only [Act.put, List.getElem_toArray, List.getElem_cons_succ, List.getElem_cons_zero, List.setIfInBounds_toArray, List.set_cons_zero, List.set_cons_succ]
    refine wpAnyH_take (i := 15) (oi := _) (v := ?vr4_15) rfl (by kernel_rfl) (by kernel_rfl) (by kernel_rfl) (fun _ _ _ h => h) (Or.inl ⟨by rfl, ?hyr4_15⟩) (by assumption) ?restr4_15
    case hyr4_15 => (intro w hSw; (try dsimp only at hSw); go_simp <;> with_reducible rfl)
    try simp only [Act.put, List.getElem_toArray, List.getElem_cons_succ, List.getElem_cons_zero, List.setIfInBounds_toArray, List.set_cons_zero, List.set_cons_succ]
    refine wpAnyH_take (i := 16) (oi := _) (v := ?vr4_16) rfl (by kernel_rfl) (by kernel_rfl) (by kernel_rfl) (fun _ _ _ h => h) (Or.inl ⟨by rfl, ?hyr4_16⟩) (by assumption) ?restr4_16
    case hyr4_16 => (intro w hSw; (try dsimp only at hSw); go_simp <;> with_reducible rfl)
    try simp only [Act.put, List.getElem_toArray, List.getElem_cons_succ, List.getElem_cons_zero, List.setIfInBounds_toArray, List.set_cons_zero, List.set_cons_succ]
    refine wpAnyH_done (by kernel_rfl) ?_ _
    go_wp2
    go_ret
    exact ⟨by simp, hB.trans (P3.mono hzN)⟩

theorem walk_sub (x0 y0 x1 y1 s : Int) (A : Option Addr) (c : Nat) (zs : List Int) (B : Option Addr) (k : Nat) (ps : List (Int × Int × Int × Int)) (a0 b0 a1 b1 x y : Int) (w : World) (hr : Hid (Reads w A zs)) (hl : Small zs) (hn : Hid (A = none → c = 0)) (pr : Hid (PReads w B ps)) (pl : (ps.length : Int) ≤ 2097152) :
    Calls Try.prog 12 #[.agg #[.int .i64 x0, .int .i64 y0, .int .i64 x1, .int .i64 y1, .int .i64 s, .slice A zs.length c, .slice B ps.length k], .agg #[.int .i64 a0, .int .i64 b0, .int .i64 a1, .int .i64 b1], .int .i64 x, .int .i64 y] w fun e w' => e = .returned (.bool true) ∧ Below w.heap.size w w' := by
  by_cases hF : Fits x0 y0 x1 y1 s 1 zs.length
  · by_cases hN : Near4 a0 b0 a1 b1
    · by_cases hE : min x1 a1 ≤ max x0 a0 ∨ min y1 b1 ≤ max y0 b0
      · exact sub_none x0 y0 x1 y1 s A c zs B k ps a0 b0 a1 b1 x y w hr hl hn pr pl hF hN hE
      · by_cases hJ : Insd (max x0 a0) (max y0 b0) (min x1 a1) (min y1 b1) x y
        · exact sub_in x0 y0 x1 y1 s A c zs B k ps a0 b0 a1 b1 x y w hr hl hn pr pl hF hN _ _ _ _ rfl rfl rfl rfl (by omega) (by omega) hJ
        · exact sub_out x0 y0 x1 y1 s A c zs B k ps a0 b0 a1 b1 x y w hr hl hn pr pl hF hN _ _ _ _ rfl rfl rfl rfl (by omega) (by omega) hJ
    · exact sub_far x0 y0 x1 y1 s A c zs B k ps a0 b0 a1 b1 x y w hr hl hn pr pl hF hN
  · exact sub_unfit x0 y0 x1 y1 s A c zs B k ps a0 b0 a1 b1 x y w hr hl hn pr pl hF

end Go.Proofs.Ytkhgobeeaiagfaa
