/- The walk of the law FnGray16SubSub. -/
import Derived.Test.YtmhmahdojcajpaaISubAny
import Derived.Test.YtmhmahdojcajpaaWAt
import Derived.Test.YtmhmahdojcajpaaCut
namespace Go.Proofs.Ytmhmahdojcajpaa
open Go.RowKit
set_option linter.unusedVariables false
set_option linter.unusedSimpArgs false

set_option maxRecDepth 100000 in
set_option maxHeartbeats 4000000 in
theorem ss_unfit (x0 y0 x1 y1 s : Int) (A : Option Addr) (c : Nat) (zs : List Int) (a0 b0 a1 b1 e0 f0 e1 f1 x y : Int) (w : World) (hr : Hid (Reads w A zs)) (hy : Hid (Bytes zs)) (hl : Small zs) (hn : Hid (A = none → c = 0)) (hF : Hid (¬ Fits x0 y0 x1 y1 s 2 zs.length)) :
    Calls Try.prog 12 #[.agg #[.int .i64 x0, .int .i64 y0, .int .i64 x1, .int .i64 y1, .int .i64 s, .slice A zs.length c], .agg #[.int .i64 a0, .int .i64 b0, .int .i64 a1, .int .i64 b1], .agg #[.int .i64 e0, .int .i64 f0, .int .i64 e1, .int .i64 f1], .int .i64 x, .int .i64 y] w fun e w' => e = .returned (.bool true) ∧ Below w.heap.size w w' := by
  have hB : Below w.heap.size w (((w.alloc (.cells #[.int .i64 x0, .int .i64 y0, .int .i64 x1, .int .i64 y1, .int .i64 s, .slice A zs.length c] 26)).alloc (.cells #[.int .i64 a0, .int .i64 b0, .int .i64 a1, .int .i64 b1] 23)).alloc (.cells #[.int .i64 e0, .int .i64 f0, .int .i64 e1, .int .i64 f1] 23)) := (((Below.refl _ _).alloc (Nat.le_refl _) _).alloc (by simp) _).alloc (by simp; omega) _
  have D0 : (((w.alloc (.cells #[.int .i64 x0, .int .i64 y0, .int .i64 x1, .int .i64 y1, .int .i64 s, .slice A zs.length c] 26)).alloc (.cells #[.int .i64 a0, .int .i64 b0, .int .i64 a1, .int .i64 b1] 23)).alloc (.cells #[.int .i64 e0, .int .i64 f0, .int .i64 e1, .int .i64 f1] 23)).cell? ⟨w.heap.size, 0, none⟩ = some (.int .i64 x0) := by first | (simp; done) | go_simp
  have D1 : (((w.alloc (.cells #[.int .i64 x0, .int .i64 y0, .int .i64 x1, .int .i64 y1, .int .i64 s, .slice A zs.length c] 26)).alloc (.cells #[.int .i64 a0, .int .i64 b0, .int .i64 a1, .int .i64 b1] 23)).alloc (.cells #[.int .i64 e0, .int .i64 f0, .int .i64 e1, .int .i64 f1] 23)).cell? ⟨w.heap.size, 1, none⟩ = some (.int .i64 y0) := by first | (simp; done) | go_simp
  have D2 : (((w.alloc (.cells #[.int .i64 x0, .int .i64 y0, .int .i64 x1, .int .i64 y1, .int .i64 s, .slice A zs.length c] 26)).alloc (.cells #[.int .i64 a0, .int .i64 b0, .int .i64 a1, .int .i64 b1] 23)).alloc (.cells #[.int .i64 e0, .int .i64 f0, .int .i64 e1, .int .i64 f1] 23)).cell? ⟨w.heap.size, 2, none⟩ = some (.int .i64 x1) := by first | (simp; done) | go_simp
  have D3 : (((w.alloc (.cells #[.int .i64 x0, .int .i64 y0, .int .i64 x1, .int .i64 y1, .int .i64 s, .slice A zs.length c] 26)).alloc (.cells #[.int .i64 a0, .int .i64 b0, .int .i64 a1, .int .i64 b1] 23)).alloc (.cells #[.int .i64 e0, .int .i64 f0, .int .i64 e1, .int .i64 f1] 23)).cell? ⟨w.heap.size, 3, none⟩ = some (.int .i64 y1) := by first | (simp; done) | go_simp
  have D4 : (((w.alloc (.cells #[.int .i64 x0, .int .i64 y0, .int .i64 x1, .int .i64 y1, .int .i64 s, .slice A zs.length c] 26)).alloc (.cells #[.int .i64 a0, .int .i64 b0, .int .i64 a1, .int .i64 b1] 23)).alloc (.cells #[.int .i64 e0, .int .i64 f0, .int .i64 e1, .int .i64 f1] 23)).cell? ⟨w.heap.size, 4, none⟩ = some (.int .i64 s) := by first | (simp; done) | go_simp
  have D5 : (((w.alloc (.cells #[.int .i64 x0, .int .i64 y0, .int .i64 x1, .int .i64 y1, .int .i64 s, .slice A zs.length c] 26)).alloc (.cells #[.int .i64 a0, .int .i64 b0, .int .i64 a1, .int .i64 b1] 23)).alloc (.cells #[.int .i64 e0, .int .i64 f0, .int .i64 e1, .int .i64 f1] 23)).cell? ⟨w.heap.size, 5, none⟩ = some (.slice A zs.length c) := by first | (simp; done) | go_simp
  have R0 : (((w.alloc (.cells #[.int .i64 x0, .int .i64 y0, .int .i64 x1, .int .i64 y1, .int .i64 s, .slice A zs.length c] 26)).alloc (.cells #[.int .i64 a0, .int .i64 b0, .int .i64 a1, .int .i64 b1] 23)).alloc (.cells #[.int .i64 e0, .int .i64 f0, .int .i64 e1, .int .i64 f1] 23)).cell? ⟨w.heap.size + 1, 0, none⟩ = some (.int .i64 a0) := by first | (simp; done) | go_simp
  have R1 : (((w.alloc (.cells #[.int .i64 x0, .int .i64 y0, .int .i64 x1, .int .i64 y1, .int .i64 s, .slice A zs.length c] 26)).alloc (.cells #[.int .i64 a0, .int .i64 b0, .int .i64 a1, .int .i64 b1] 23)).alloc (.cells #[.int .i64 e0, .int .i64 f0, .int .i64 e1, .int .i64 f1] 23)).cell? ⟨w.heap.size + 1, 1, none⟩ = some (.int .i64 b0) := by first | (simp; done) | go_simp
  have R2 : (((w.alloc (.cells #[.int .i64 x0, .int .i64 y0, .int .i64 x1, .int .i64 y1, .int .i64 s, .slice A zs.length c] 26)).alloc (.cells #[.int .i64 a0, .int .i64 b0, .int .i64 a1, .int .i64 b1] 23)).alloc (.cells #[.int .i64 e0, .int .i64 f0, .int .i64 e1, .int .i64 f1] 23)).cell? ⟨w.heap.size + 1, 2, none⟩ = some (.int .i64 a1) := by first | (simp; done) | go_simp
  have R3 : (((w.alloc (.cells #[.int .i64 x0, .int .i64 y0, .int .i64 x1, .int .i64 y1, .int .i64 s, .slice A zs.length c] 26)).alloc (.cells #[.int .i64 a0, .int .i64 b0, .int .i64 a1, .int .i64 b1] 23)).alloc (.cells #[.int .i64 e0, .int .i64 f0, .int .i64 e1, .int .i64 f1] 23)).cell? ⟨w.heap.size + 1, 3, none⟩ = some (.int .i64 b1) := by first | (simp; done) | go_simp
  have S0 : (((w.alloc (.cells #[.int .i64 x0, .int .i64 y0, .int .i64 x1, .int .i64 y1, .int .i64 s, .slice A zs.length c] 26)).alloc (.cells #[.int .i64 a0, .int .i64 b0, .int .i64 a1, .int .i64 b1] 23)).alloc (.cells #[.int .i64 e0, .int .i64 f0, .int .i64 e1, .int .i64 f1] 23)).cell? ⟨w.heap.size + 2, 0, none⟩ = some (.int .i64 e0) := by first | (simp; done) | go_simp
  have S1 : (((w.alloc (.cells #[.int .i64 x0, .int .i64 y0, .int .i64 x1, .int .i64 y1, .int .i64 s, .slice A zs.length c] 26)).alloc (.cells #[.int .i64 a0, .int .i64 b0, .int .i64 a1, .int .i64 b1] 23)).alloc (.cells #[.int .i64 e0, .int .i64 f0, .int .i64 e1, .int .i64 f1] 23)).cell? ⟨w.heap.size + 2, 1, none⟩ = some (.int .i64 f0) := by first | (simp; done) | go_simp
  have S2 : (((w.alloc (.cells #[.int .i64 x0, .int .i64 y0, .int .i64 x1, .int .i64 y1, .int .i64 s, .slice A zs.length c] 26)).alloc (.cells #[.int .i64 a0, .int .i64 b0, .int .i64 a1, .int .i64 b1] 23)).alloc (.cells #[.int .i64 e0, .int .i64 f0, .int .i64 e1, .int .i64 f1] 23)).cell? ⟨w.heap.size + 2, 2, none⟩ = some (.int .i64 e1) := by first | (simp; done) | go_simp
  have S3 : (((w.alloc (.cells #[.int .i64 x0, .int .i64 y0, .int .i64 x1, .int .i64 y1, .int .i64 s, .slice A zs.length c] 26)).alloc (.cells #[.int .i64 a0, .int .i64 b0, .int .i64 a1, .int .i64 b1] 23)).alloc (.cells #[.int .i64 e0, .int .i64 f0, .int .i64 e1, .int .i64 f1] 23)).cell? ⟨w.heap.size + 2, 3, none⟩ = some (.int .i64 f1) := by first | (simp; done) | go_simp
  have HR := Lib.hid (hr.out.below hB)
  go_enter Try.func12, Try.ntmps12
  go_wp2_with fail
  generalize ((w.alloc (.cells #[.int .i64 x0, .int .i64 y0, .int .i64 x1, .int .i64 y1, .int .i64 s, .slice A zs.length c] 26)).alloc (.cells #[.int .i64 a0, .int .i64 b0, .int .i64 a1, .int .i64 b1] 23)).alloc (.cells #[.int .i64 e0, .int .i64 f0, .int .i64 e1, .int .i64 f1] 23) = W0 at *
  refine (fitsK_any x0 y0 x1 y1 s A c zs false (by simp [hF.out]) _).mono ?_
  rintro e w1 ⟨rfl, hb1⟩
  replace D0 := cell_kept D0 hb1
  replace D1 := cell_kept D1 hb1
  replace D2 := cell_kept D2 hb1
  replace D3 := cell_kept D3 hb1
  replace D4 := cell_kept D4 hb1
  replace D5 := cell_kept D5 hb1
  replace R0 := cell_kept R0 hb1
  replace R1 := cell_kept R1 hb1
  replace R2 := cell_kept R2 hb1
  replace R3 := cell_kept R3 hb1
  replace S0 := cell_kept S0 hb1
  replace S1 := cell_kept S1 hb1
  replace S2 := cell_kept S2 hb1
  replace S3 := cell_kept S3 hb1
  replace HR := Lib.hid (HR.out.below hb1)
  replace hB := hB.trans (hb1.mono hB.size)
  clear hb1
  go_wp2
  go_ret
  exact ⟨by simp, hB⟩

set_option maxRecDepth 100000 in
set_option maxHeartbeats 4000000 in
theorem ss_far1 (x0 y0 x1 y1 s : Int) (A : Option Addr) (c : Nat) (zs : List Int) (a0 b0 a1 b1 e0 f0 e1 f1 x y : Int) (w : World) (hr : Hid (Reads w A zs)) (hy : Hid (Bytes zs)) (hl : Small zs) (hn : Hid (A = none → c = 0)) (hF : Hid (Fits x0 y0 x1 y1 s 2 zs.length)) (hN : Hid (¬ Near4 a0 b0 a1 b1)) :
    Calls Try.prog 12 #[.agg #[.int .i64 x0, .int .i64 y0, .int .i64 x1, .int .i64 y1, .int .i64 s, .slice A zs.length c], .agg #[.int .i64 a0, .int .i64 b0, .int .i64 a1, .int .i64 b1], .agg #[.int .i64 e0, .int .i64 f0, .int .i64 e1, .int .i64 f1], .int .i64 x, .int .i64 y] w fun e w' => e = .returned (.bool true) ∧ Below w.heap.size w w' := by
  have hB : Below w.heap.size w (((w.alloc (.cells #[.int .i64 x0, .int .i64 y0, .int .i64 x1, .int .i64 y1, .int .i64 s, .slice A zs.length c] 26)).alloc (.cells #[.int .i64 a0, .int .i64 b0, .int .i64 a1, .int .i64 b1] 23)).alloc (.cells #[.int .i64 e0, .int .i64 f0, .int .i64 e1, .int .i64 f1] 23)) := (((Below.refl _ _).alloc (Nat.le_refl _) _).alloc (by simp) _).alloc (by simp; omega) _
  have D0 : (((w.alloc (.cells #[.int .i64 x0, .int .i64 y0, .int .i64 x1, .int .i64 y1, .int .i64 s, .slice A zs.length c] 26)).alloc (.cells #[.int .i64 a0, .int .i64 b0, .int .i64 a1, .int .i64 b1] 23)).alloc (.cells #[.int .i64 e0, .int .i64 f0, .int .i64 e1, .int .i64 f1] 23)).cell? ⟨w.heap.size, 0, none⟩ = some (.int .i64 x0) := by first | (simp; done) | go_simp
  have D1 : (((w.alloc (.cells #[.int .i64 x0, .int .i64 y0, .int .i64 x1, .int .i64 y1, .int .i64 s, .slice A zs.length c] 26)).alloc (.cells #[.int .i64 a0, .int .i64 b0, .int .i64 a1, .int .i64 b1] 23)).alloc (.cells #[.int .i64 e0, .int .i64 f0, .int .i64 e1, .int .i64 f1] 23)).cell? ⟨w.heap.size, 1, none⟩ = some (.int .i64 y0) := by first | (simp; done) | go_simp
  have D2 : (((w.alloc (.cells #[.int .i64 x0, .int .i64 y0, .int .i64 x1, .int .i64 y1, .int .i64 s, .slice A zs.length c] 26)).alloc (.cells #[.int .i64 a0, .int .i64 b0, .int .i64 a1, .int .i64 b1] 23)).alloc (.cells #[.int .i64 e0, .int .i64 f0, .int .i64 e1, .int .i64 f1] 23)).cell? ⟨w.heap.size, 2, none⟩ = some (.int .i64 x1) := by first | (simp; done) | go_simp
  have D3 : (((w.alloc (.cells #[.int .i64 x0, .int .i64 y0, .int .i64 x1, .int .i64 y1, .int .i64 s, .slice A zs.length c] 26)).alloc (.cells #[.int .i64 a0, .int .i64 b0, .int .i64 a1, .int .i64 b1] 23)).alloc (.cells #[.int .i64 e0, .int .i64 f0, .int .i64 e1, .int .i64 f1] 23)).cell? ⟨w.heap.size, 3, none⟩ = some (.int .i64 y1) := by first | (simp; done) | go_simp
  have D4 : (((w.alloc (.cells #[.int .i64 x0, .int .i64 y0, .int .i64 x1, .int .i64 y1, .int .i64 s, .slice A zs.length c] 26)).alloc (.cells #[.int .i64 a0, .int .i64 b0, .int .i64 a1, .int .i64 b1] 23)).alloc (.cells #[.int .i64 e0, .int .i64 f0, .int .i64 e1, .int .i64 f1] 23)).cell? ⟨w.heap.size, 4, none⟩ = some (.int .i64 s) := by first | (simp; done) | go_simp
  have D5 : (((w.alloc (.cells #[.int .i64 x0, .int .i64 y0, .int .i64 x1, .int .i64 y1, .int .i64 s, .slice A zs.length c] 26)).alloc (.cells #[.int .i64 a0, .int .i64 b0, .int .i64 a1, .int .i64 b1] 23)).alloc (.cells #[.int .i64 e0, .int .i64 f0, .int .i64 e1, .int .i64 f1] 23)).cell? ⟨w.heap.size, 5, none⟩ = some (.slice A zs.length c) := by first | (simp; done) | go_simp
  have R0 : (((w.alloc (.cells #[.int .i64 x0, .int .i64 y0, .int .i64 x1, .int .i64 y1, .int .i64 s, .slice A zs.length c] 26)).alloc (.cells #[.int .i64 a0, .int .i64 b0, .int .i64 a1, .int .i64 b1] 23)).alloc (.cells #[.int .i64 e0, .int .i64 f0, .int .i64 e1, .int .i64 f1] 23)).cell? ⟨w.heap.size + 1, 0, none⟩ = some (.int .i64 a0) := by first | (simp; done) | go_simp
  have R1 : (((w.alloc (.cells #[.int .i64 x0, .int .i64 y0, .int .i64 x1, .int .i64 y1, .int .i64 s, .slice A zs.length c] 26)).alloc (.cells #[.int .i64 a0, .int .i64 b0, .int .i64 a1, .int .i64 b1] 23)).alloc (.cells #[.int .i64 e0, .int .i64 f0, .int .i64 e1, .int .i64 f1] 23)).cell? ⟨w.heap.size + 1, 1, none⟩ = some (.int .i64 b0) := by first | (simp; done) | go_simp
  have R2 : (((w.alloc (.cells #[.int .i64 x0, .int .i64 y0, .int .i64 x1, .int .i64 y1, .int .i64 s, .slice A zs.length c] 26)).alloc (.cells #[.int .i64 a0, .int .i64 b0, .int .i64 a1, .int .i64 b1] 23)).alloc (.cells #[.int .i64 e0, .int .i64 f0, .int .i64 e1, .int .i64 f1] 23)).cell? ⟨w.heap.size + 1, 2, none⟩ = some (.int .i64 a1) := by first | (simp; done) | go_simp
  have R3 : (((w.alloc (.cells #[.int .i64 x0, .int .i64 y0, .int .i64 x1, .int .i64 y1, .int .i64 s, .slice A zs.length c] 26)).alloc (.cells #[.int .i64 a0, .int .i64 b0, .int .i64 a1, .int .i64 b1] 23)).alloc (.cells #[.int .i64 e0, .int .i64 f0, .int .i64 e1, .int .i64 f1] 23)).cell? ⟨w.heap.size + 1, 3, none⟩ = some (.int .i64 b1) := by first | (simp; done) | go_simp
  have S0 : (((w.alloc (.cells #[.int .i64 x0, .int .i64 y0, .int .i64 x1, .int .i64 y1, .int .i64 s, .slice A zs.length c] 26)).alloc (.cells #[.int .i64 a0, .int .i64 b0, .int .i64 a1, .int .i64 b1] 23)).alloc (.cells #[.int .i64 e0, .int .i64 f0, .int .i64 e1, .int .i64 f1] 23)).cell? ⟨w.heap.size + 2, 0, none⟩ = some (.int .i64 e0) := by first | (simp; done) | go_simp
  have S1 : (((w.alloc (.cells #[.int .i64 x0, .int .i64 y0, .int .i64 x1, .int .i64 y1, .int .i64 s, .slice A zs.length c] 26)).alloc (.cells #[.int .i64 a0, .int .i64 b0, .int .i64 a1, .int .i64 b1] 23)).alloc (.cells #[.int .i64 e0, .int .i64 f0, .int .i64 e1, .int .i64 f1] 23)).cell? ⟨w.heap.size + 2, 1, none⟩ = some (.int .i64 f0) := by first | (simp; done) | go_simp
  have S2 : (((w.alloc (.cells #[.int .i64 x0, .int .i64 y0, .int .i64 x1, .int .i64 y1, .int .i64 s, .slice A zs.length c] 26)).alloc (.cells #[.int .i64 a0, .int .i64 b0, .int .i64 a1, .int .i64 b1] 23)).alloc (.cells #[.int .i64 e0, .int .i64 f0, .int .i64 e1, .int .i64 f1] 23)).cell? ⟨w.heap.size + 2, 2, none⟩ = some (.int .i64 e1) := by first | (simp; done) | go_simp
  have S3 : (((w.alloc (.cells #[.int .i64 x0, .int .i64 y0, .int .i64 x1, .int .i64 y1, .int .i64 s, .slice A zs.length c] 26)).alloc (.cells #[.int .i64 a0, .int .i64 b0, .int .i64 a1, .int .i64 b1] 23)).alloc (.cells #[.int .i64 e0, .int .i64 f0, .int .i64 e1, .int .i64 f1] 23)).cell? ⟨w.heap.size + 2, 3, none⟩ = some (.int .i64 f1) := by first | (simp; done) | go_simp
  have HR := Lib.hid (hr.out.below hB)
  go_enter Try.func12, Try.ntmps12
  go_wp2_with fail
  generalize ((w.alloc (.cells #[.int .i64 x0, .int .i64 y0, .int .i64 x1, .int .i64 y1, .int .i64 s, .slice A zs.length c] 26)).alloc (.cells #[.int .i64 a0, .int .i64 b0, .int .i64 a1, .int .i64 b1] 23)).alloc (.cells #[.int .i64 e0, .int .i64 f0, .int .i64 e1, .int .i64 f1] 23) = W0 at *
  refine (fitsK_any x0 y0 x1 y1 s A c zs true (by simp [hF.out]) _).mono ?_
  rintro e w1 ⟨rfl, hb1⟩
  replace D0 := cell_kept D0 hb1
  replace D1 := cell_kept D1 hb1
  replace D2 := cell_kept D2 hb1
  replace D3 := cell_kept D3 hb1
  replace D4 := cell_kept D4 hb1
  replace D5 := cell_kept D5 hb1
  replace R0 := cell_kept R0 hb1
  replace R1 := cell_kept R1 hb1
  replace R2 := cell_kept R2 hb1
  replace R3 := cell_kept R3 hb1
  replace S0 := cell_kept S0 hb1
  replace S1 := cell_kept S1 hb1
  replace S2 := cell_kept S2 hb1
  replace S3 := cell_kept S3 hb1
  replace HR := Lib.hid (HR.out.below hb1)
  replace hB := hB.trans (hb1.mono hB.size)
  clear hb1
  go_wp2_with fail
  refine (box_any a0 b0 a1 b1 _).mono ?_
  rintro e w2 ⟨rfl, hb2⟩
  replace D0 := cell_kept D0 hb2
  replace D1 := cell_kept D1 hb2
  replace D2 := cell_kept D2 hb2
  replace D3 := cell_kept D3 hb2
  replace D4 := cell_kept D4 hb2
  replace D5 := cell_kept D5 hb2
  replace R0 := cell_kept R0 hb2
  replace R1 := cell_kept R1 hb2
  replace R2 := cell_kept R2 hb2
  replace R3 := cell_kept R3 hb2
  replace S0 := cell_kept S0 hb2
  replace S1 := cell_kept S1 hb2
  replace S2 := cell_kept S2 hb2
  replace S3 := cell_kept S3 hb2
  replace HR := Lib.hid (HR.out.below hb2)
  replace hB := hB.trans (hb2.mono hB.size)
  clear hb2
  go_wp2_with fail
  refine (near4_any a0 b0 a1 b1 false (by simp [hN.out]) _).mono ?_
  rintro e w3 ⟨rfl, hb3⟩
  replace D0 := cell_kept D0 hb3
  replace D1 := cell_kept D1 hb3
  replace D2 := cell_kept D2 hb3
  replace D3 := cell_kept D3 hb3
  replace D4 := cell_kept D4 hb3
  replace D5 := cell_kept D5 hb3
  replace R0 := cell_kept R0 hb3
  replace R1 := cell_kept R1 hb3
  replace R2 := cell_kept R2 hb3
  replace R3 := cell_kept R3 hb3
  replace S0 := cell_kept S0 hb3
  replace S1 := cell_kept S1 hb3
  replace S2 := cell_kept S2 hb3
  replace S3 := cell_kept S3 hb3
  replace HR := Lib.hid (HR.out.below hb3)
  replace hB := hB.trans (hb3.mono hB.size)
  clear hb3
  go_wp2
  go_ret
  exact ⟨by simp, hB⟩

set_option maxRecDepth 100000 in
set_option maxHeartbeats 4000000 in
theorem ss_far2 (x0 y0 x1 y1 s : Int) (A : Option Addr) (c : Nat) (zs : List Int) (a0 b0 a1 b1 e0 f0 e1 f1 x y : Int) (w : World) (hr : Hid (Reads w A zs)) (hy : Hid (Bytes zs)) (hl : Small zs) (hn : Hid (A = none → c = 0)) (hF : Hid (Fits x0 y0 x1 y1 s 2 zs.length)) (hN : Hid (Near4 a0 b0 a1 b1)) (hM : Hid (¬ Near4 e0 f0 e1 f1)) :
    Calls Try.prog 12 #[.agg #[.int .i64 x0, .int .i64 y0, .int .i64 x1, .int .i64 y1, .int .i64 s, .slice A zs.length c], .agg #[.int .i64 a0, .int .i64 b0, .int .i64 a1, .int .i64 b1], .agg #[.int .i64 e0, .int .i64 f0, .int .i64 e1, .int .i64 f1], .int .i64 x, .int .i64 y] w fun e w' => e = .returned (.bool true) ∧ Below w.heap.size w w' := by
  have hB : Below w.heap.size w (((w.alloc (.cells #[.int .i64 x0, .int .i64 y0, .int .i64 x1, .int .i64 y1, .int .i64 s, .slice A zs.length c] 26)).alloc (.cells #[.int .i64 a0, .int .i64 b0, .int .i64 a1, .int .i64 b1] 23)).alloc (.cells #[.int .i64 e0, .int .i64 f0, .int .i64 e1, .int .i64 f1] 23)) := (((Below.refl _ _).alloc (Nat.le_refl _) _).alloc (by simp) _).alloc (by simp; omega) _
  have D0 : (((w.alloc (.cells #[.int .i64 x0, .int .i64 y0, .int .i64 x1, .int .i64 y1, .int .i64 s, .slice A zs.length c] 26)).alloc (.cells #[.int .i64 a0, .int .i64 b0, .int .i64 a1, .int .i64 b1] 23)).alloc (.cells #[.int .i64 e0, .int .i64 f0, .int .i64 e1, .int .i64 f1] 23)).cell? ⟨w.heap.size, 0, none⟩ = some (.int .i64 x0) := by first | (simp; done) | go_simp
  have D1 : (((w.alloc (.cells #[.int .i64 x0, .int .i64 y0, .int .i64 x1, .int .i64 y1, .int .i64 s, .slice A zs.length c] 26)).alloc (.cells #[.int .i64 a0, .int .i64 b0, .int .i64 a1, .int .i64 b1] 23)).alloc (.cells #[.int .i64 e0, .int .i64 f0, .int .i64 e1, .int .i64 f1] 23)).cell? ⟨w.heap.size, 1, none⟩ = some (.int .i64 y0) := by first | (simp; done) | go_simp
  have D2 : (((w.alloc (.cells #[.int .i64 x0, .int .i64 y0, .int .i64 x1, .int .i64 y1, .int .i64 s, .slice A zs.length c] 26)).alloc (.cells #[.int .i64 a0, .int .i64 b0, .int .i64 a1, .int .i64 b1] 23)).alloc (.cells #[.int .i64 e0, .int .i64 f0, .int .i64 e1, .int .i64 f1] 23)).cell? ⟨w.heap.size, 2, none⟩ = some (.int .i64 x1) := by first | (simp; done) | go_simp
  have D3 : (((w.alloc (.cells #[.int .i64 x0, .int .i64 y0, .int .i64 x1, .int .i64 y1, .int .i64 s, .slice A zs.length c] 26)).alloc (.cells #[.int .i64 a0, .int .i64 b0, .int .i64 a1, .int .i64 b1] 23)).alloc (.cells #[.int .i64 e0, .int .i64 f0, .int .i64 e1, .int .i64 f1] 23)).cell? ⟨w.heap.size, 3, none⟩ = some (.int .i64 y1) := by first | (simp; done) | go_simp
  have D4 : (((w.alloc (.cells #[.int .i64 x0, .int .i64 y0, .int .i64 x1, .int .i64 y1, .int .i64 s, .slice A zs.length c] 26)).alloc (.cells #[.int .i64 a0, .int .i64 b0, .int .i64 a1, .int .i64 b1] 23)).alloc (.cells #[.int .i64 e0, .int .i64 f0, .int .i64 e1, .int .i64 f1] 23)).cell? ⟨w.heap.size, 4, none⟩ = some (.int .i64 s) := by first | (simp; done) | go_simp
  have D5 : (((w.alloc (.cells #[.int .i64 x0, .int .i64 y0, .int .i64 x1, .int .i64 y1, .int .i64 s, .slice A zs.length c] 26)).alloc (.cells #[.int .i64 a0, .int .i64 b0, .int .i64 a1, .int .i64 b1] 23)).alloc (.cells #[.int .i64 e0, .int .i64 f0, .int .i64 e1, .int .i64 f1] 23)).cell? ⟨w.heap.size, 5, none⟩ = some (.slice A zs.length c) := by first | (simp; done) | go_simp
  have R0 : (((w.alloc (.cells #[.int .i64 x0, .int .i64 y0, .int .i64 x1, .int .i64 y1, .int .i64 s, .slice A zs.length c] 26)).alloc (.cells #[.int .i64 a0, .int .i64 b0, .int .i64 a1, .int .i64 b1] 23)).alloc (.cells #[.int .i64 e0, .int .i64 f0, .int .i64 e1, .int .i64 f1] 23)).cell? ⟨w.heap.size + 1, 0, none⟩ = some (.int .i64 a0) := by first | (simp; done) | go_simp
  have R1 : (((w.alloc (.cells #[.int .i64 x0, .int .i64 y0, .int .i64 x1, .int .i64 y1, .int .i64 s, .slice A zs.length c] 26)).alloc (.cells #[.int .i64 a0, .int .i64 b0, .int .i64 a1, .int .i64 b1] 23)).alloc (.cells #[.int .i64 e0, .int .i64 f0, .int .i64 e1, .int .i64 f1] 23)).cell? ⟨w.heap.size + 1, 1, none⟩ = some (.int .i64 b0) := by first | (simp; done) | go_simp
  have R2 : (((w.alloc (.cells #[.int .i64 x0, .int .i64 y0, .int .i64 x1, .int .i64 y1, .int .i64 s, .slice A zs.length c] 26)).alloc (.cells #[.int .i64 a0, .int .i64 b0, .int .i64 a1, .int .i64 b1] 23)).alloc (.cells #[.int .i64 e0, .int .i64 f0, .int .i64 e1, .int .i64 f1] 23)).cell? ⟨w.heap.size + 1, 2, none⟩ = some (.int .i64 a1) := by first | (simp; done) | go_simp
  have R3 : (((w.alloc (.cells #[.int .i64 x0, .int .i64 y0, .int .i64 x1, .int .i64 y1, .int .i64 s, .slice A zs.length c] 26)).alloc (.cells #[.int .i64 a0, .int .i64 b0, .int .i64 a1, .int .i64 b1] 23)).alloc (.cells #[.int .i64 e0, .int .i64 f0, .int .i64 e1, .int .i64 f1] 23)).cell? ⟨w.heap.size + 1, 3, none⟩ = some (.int .i64 b1) := by first | (simp; done) | go_simp
  have S0 : (((w.alloc (.cells #[.int .i64 x0, .int .i64 y0, .int .i64 x1, .int .i64 y1, .int .i64 s, .slice A zs.length c] 26)).alloc (.cells #[.int .i64 a0, .int .i64 b0, .int .i64 a1, .int .i64 b1] 23)).alloc (.cells #[.int .i64 e0, .int .i64 f0, .int .i64 e1, .int .i64 f1] 23)).cell? ⟨w.heap.size + 2, 0, none⟩ = some (.int .i64 e0) := by first | (simp; done) | go_simp
  have S1 : (((w.alloc (.cells #[.int .i64 x0, .int .i64 y0, .int .i64 x1, .int .i64 y1, .int .i64 s, .slice A zs.length c] 26)).alloc (.cells #[.int .i64 a0, .int .i64 b0, .int .i64 a1, .int .i64 b1] 23)).alloc (.cells #[.int .i64 e0, .int .i64 f0, .int .i64 e1, .int .i64 f1] 23)).cell? ⟨w.heap.size + 2, 1, none⟩ = some (.int .i64 f0) := by first | (simp; done) | go_simp
  have S2 : (((w.alloc (.cells #[.int .i64 x0, .int .i64 y0, .int .i64 x1, .int .i64 y1, .int .i64 s, .slice A zs.length c] 26)).alloc (.cells #[.int .i64 a0, .int .i64 b0, .int .i64 a1, .int .i64 b1] 23)).alloc (.cells #[.int .i64 e0, .int .i64 f0, .int .i64 e1, .int .i64 f1] 23)).cell? ⟨w.heap.size + 2, 2, none⟩ = some (.int .i64 e1) := by first | (simp; done) | go_simp
  have S3 : (((w.alloc (.cells #[.int .i64 x0, .int .i64 y0, .int .i64 x1, .int .i64 y1, .int .i64 s, .slice A zs.length c] 26)).alloc (.cells #[.int .i64 a0, .int .i64 b0, .int .i64 a1, .int .i64 b1] 23)).alloc (.cells #[.int .i64 e0, .int .i64 f0, .int .i64 e1, .int .i64 f1] 23)).cell? ⟨w.heap.size + 2, 3, none⟩ = some (.int .i64 f1) := by first | (simp; done) | go_simp
  have HR := Lib.hid (hr.out.below hB)
  go_enter Try.func12, Try.ntmps12
  go_wp2_with fail
  generalize ((w.alloc (.cells #[.int .i64 x0, .int .i64 y0, .int .i64 x1, .int .i64 y1, .int .i64 s, .slice A zs.length c] 26)).alloc (.cells #[.int .i64 a0, .int .i64 b0, .int .i64 a1, .int .i64 b1] 23)).alloc (.cells #[.int .i64 e0, .int .i64 f0, .int .i64 e1, .int .i64 f1] 23) = W0 at *
  refine (fitsK_any x0 y0 x1 y1 s A c zs true (by simp [hF.out]) _).mono ?_
  rintro e w1 ⟨rfl, hb1⟩
  replace D0 := cell_kept D0 hb1
  replace D1 := cell_kept D1 hb1
  replace D2 := cell_kept D2 hb1
  replace D3 := cell_kept D3 hb1
  replace D4 := cell_kept D4 hb1
  replace D5 := cell_kept D5 hb1
  replace R0 := cell_kept R0 hb1
  replace R1 := cell_kept R1 hb1
  replace R2 := cell_kept R2 hb1
  replace R3 := cell_kept R3 hb1
  replace S0 := cell_kept S0 hb1
  replace S1 := cell_kept S1 hb1
  replace S2 := cell_kept S2 hb1
  replace S3 := cell_kept S3 hb1
  replace HR := Lib.hid (HR.out.below hb1)
  replace hB := hB.trans (hb1.mono hB.size)
  clear hb1
  go_wp2_with fail
  refine (box_any a0 b0 a1 b1 _).mono ?_
  rintro e w2 ⟨rfl, hb2⟩
  replace D0 := cell_kept D0 hb2
  replace D1 := cell_kept D1 hb2
  replace D2 := cell_kept D2 hb2
  replace D3 := cell_kept D3 hb2
  replace D4 := cell_kept D4 hb2
  replace D5 := cell_kept D5 hb2
  replace R0 := cell_kept R0 hb2
  replace R1 := cell_kept R1 hb2
  replace R2 := cell_kept R2 hb2
  replace R3 := cell_kept R3 hb2
  replace S0 := cell_kept S0 hb2
  replace S1 := cell_kept S1 hb2
  replace S2 := cell_kept S2 hb2
  replace S3 := cell_kept S3 hb2
  replace HR := Lib.hid (HR.out.below hb2)
  replace hB := hB.trans (hb2.mono hB.size)
  clear hb2
  go_wp2_with fail
  refine (near4_any a0 b0 a1 b1 true (by simp [hN.out]) _).mono ?_
  rintro e w3 ⟨rfl, hb3⟩
  replace D0 := cell_kept D0 hb3
  replace D1 := cell_kept D1 hb3
  replace D2 := cell_kept D2 hb3
  replace D3 := cell_kept D3 hb3
  replace D4 := cell_kept D4 hb3
  replace D5 := cell_kept D5 hb3
  replace R0 := cell_kept R0 hb3
  replace R1 := cell_kept R1 hb3
  replace R2 := cell_kept R2 hb3
  replace R3 := cell_kept R3 hb3
  replace S0 := cell_kept S0 hb3
  replace S1 := cell_kept S1 hb3
  replace S2 := cell_kept S2 hb3
  replace S3 := cell_kept S3 hb3
  replace HR := Lib.hid (HR.out.below hb3)
  replace hB := hB.trans (hb3.mono hB.size)
  clear hb3
  go_wp2_with fail
  refine (box_any e0 f0 e1 f1 _).mono ?_
  rintro e w4 ⟨rfl, hb4⟩
  replace D0 := cell_kept D0 hb4
  replace D1 := cell_kept D1 hb4
  replace D2 := cell_kept D2 hb4
  replace D3 := cell_kept D3 hb4
  replace D4 := cell_kept D4 hb4
  replace D5 := cell_kept D5 hb4
  replace R0 := cell_kept R0 hb4
  replace R1 := cell_kept R1 hb4
  replace R2 := cell_kept R2 hb4
  replace R3 := cell_kept R3 hb4
  replace S0 := cell_kept S0 hb4
  replace S1 := cell_kept S1 hb4
  replace S2 := cell_kept S2 hb4
  replace S3 := cell_kept S3 hb4
  replace HR := Lib.hid (HR.out.below hb4)
  replace hB := hB.trans (hb4.mono hB.size)
  clear hb4
  go_wp2_with fail
  refine (near4_any e0 f0 e1 f1 false (by simp [hM.out]) _).mono ?_
  rintro e w5 ⟨rfl, hb5⟩
  replace D0 := cell_kept D0 hb5
  replace D1 := cell_kept D1 hb5
  replace D2 := cell_kept D2 hb5
  replace D3 := cell_kept D3 hb5
  replace D4 := cell_kept D4 hb5
  replace D5 := cell_kept D5 hb5
  replace R0 := cell_kept R0 hb5
  replace R1 := cell_kept R1 hb5
  replace R2 := cell_kept R2 hb5
  replace R3 := cell_kept R3 hb5
  replace S0 := cell_kept S0 hb5
  replace S1 := cell_kept S1 hb5
  replace S2 := cell_kept S2 hb5
  replace S3 := cell_kept S3 hb5
  replace HR := Lib.hid (HR.out.below hb5)
  replace hB := hB.trans (hb5.mono hB.size)
  clear hb5
  go_wp2
  go_ret
  exact ⟨by simp, hB⟩

set_option maxRecDepth 100000 in
set_option maxHeartbeats 4000000 in
theorem ss_none (x0 y0 x1 y1 s : Int) (A : Option Addr) (c : Nat) (zs : List Int) (a0 b0 a1 b1 e0 f0 e1 f1 x y : Int) (w : World) (hr : Hid (Reads w A zs)) (hy : Hid (Bytes zs)) (hl : Small zs) (hn : Hid (A = none → c = 0)) (hF : Hid (Fits x0 y0 x1 y1 s 2 zs.length)) (hN : Hid (Near4 a0 b0 a1 b1)) (hM : Hid (Near4 e0 f0 e1 f1)) (hE : Hid (min a1 e1 ≤ max a0 e0 ∨ min b1 f1 ≤ max b0 f0)) :
    Calls Try.prog 12 #[.agg #[.int .i64 x0, .int .i64 y0, .int .i64 x1, .int .i64 y1, .int .i64 s, .slice A zs.length c], .agg #[.int .i64 a0, .int .i64 b0, .int .i64 a1, .int .i64 b1], .agg #[.int .i64 e0, .int .i64 f0, .int .i64 e1, .int .i64 f1], .int .i64 x, .int .i64 y] w fun e w' => e = .returned (.bool true) ∧ Below w.heap.size w w' := by
  have hB : Below w.heap.size w (((w.alloc (.cells #[.int .i64 x0, .int .i64 y0, .int .i64 x1, .int .i64 y1, .int .i64 s, .slice A zs.length c] 26)).alloc (.cells #[.int .i64 a0, .int .i64 b0, .int .i64 a1, .int .i64 b1] 23)).alloc (.cells #[.int .i64 e0, .int .i64 f0, .int .i64 e1, .int .i64 f1] 23)) := (((Below.refl _ _).alloc (Nat.le_refl _) _).alloc (by simp) _).alloc (by simp; omega) _
  have D0 : (((w.alloc (.cells #[.int .i64 x0, .int .i64 y0, .int .i64 x1, .int .i64 y1, .int .i64 s, .slice A zs.length c] 26)).alloc (.cells #[.int .i64 a0, .int .i64 b0, .int .i64 a1, .int .i64 b1] 23)).alloc (.cells #[.int .i64 e0, .int .i64 f0, .int .i64 e1, .int .i64 f1] 23)).cell? ⟨w.heap.size, 0, none⟩ = some (.int .i64 x0) := by first | (simp; done) | go_simp
  have D1 : (((w.alloc (.cells #[.int .i64 x0, .int .i64 y0, .int .i64 x1, .int .i64 y1, .int .i64 s, .slice A zs.length c] 26)).alloc (.cells #[.int .i64 a0, .int .i64 b0, .int .i64 a1, .int .i64 b1] 23)).alloc (.cells #[.int .i64 e0, .int .i64 f0, .int .i64 e1, .int .i64 f1] 23)).cell? ⟨w.heap.size, 1, none⟩ = some (.int .i64 y0) := by first | (simp; done) | go_simp
  have D2 : (((w.alloc (.cells #[.int .i64 x0, .int .i64 y0, .int .i64 x1, .int .i64 y1, .int .i64 s, .slice A zs.length c] 26)).alloc (.cells #[.int .i64 a0, .int .i64 b0, .int .i64 a1, .int .i64 b1] 23)).alloc (.cells #[.int .i64 e0, .int .i64 f0, .int .i64 e1, .int .i64 f1] 23)).cell? ⟨w.heap.size, 2, none⟩ = some (.int .i64 x1) := by first | (simp; done) | go_simp
  have D3 : (((w.alloc (.cells #[.int .i64 x0, .int .i64 y0, .int .i64 x1, .int .i64 y1, .int .i64 s, .slice A zs.length c] 26)).alloc (.cells #[.int .i64 a0, .int .i64 b0, .int .i64 a1, .int .i64 b1] 23)).alloc (.cells #[.int .i64 e0, .int .i64 f0, .int .i64 e1, .int .i64 f1] 23)).cell? ⟨w.heap.size, 3, none⟩ = some (.int .i64 y1) := by first | (simp; done) | go_simp
  have D4 : (((w.alloc (.cells #[.int .i64 x0, .int .i64 y0, .int .i64 x1, .int .i64 y1, .int .i64 s, .slice A zs.length c] 26)).alloc (.cells #[.int .i64 a0, .int .i64 b0, .int .i64 a1, .int .i64 b1] 23)).alloc (.cells #[.int .i64 e0, .int .i64 f0, .int .i64 e1, .int .i64 f1] 23)).cell? ⟨w.heap.size, 4, none⟩ = some (.int .i64 s) := by first | (simp; done) | go_simp
  have D5 : (((w.alloc (.cells #[.int .i64 x0, .int .i64 y0, .int .i64 x1, .int .i64 y1, .int .i64 s, .slice A zs.length c] 26)).alloc (.cells #[.int .i64 a0, .int .i64 b0, .int .i64 a1, .int .i64 b1] 23)).alloc (.cells #[.int .i64 e0, .int .i64 f0, .int .i64 e1, .int .i64 f1] 23)).cell? ⟨w.heap.size, 5, none⟩ = some (.slice A zs.length c) := by first | (simp; done) | go_simp
  have R0 : (((w.alloc (.cells #[.int .i64 x0, .int .i64 y0, .int .i64 x1, .int .i64 y1, .int .i64 s, .slice A zs.length c] 26)).alloc (.cells #[.int .i64 a0, .int .i64 b0, .int .i64 a1, .int .i64 b1] 23)).alloc (.cells #[.int .i64 e0, .int .i64 f0, .int .i64 e1, .int .i64 f1] 23)).cell? ⟨w.heap.size + 1, 0, none⟩ = some (.int .i64 a0) := by first | (simp; done) | go_simp
  have R1 : (((w.alloc (.cells #[.int .i64 x0, .int .i64 y0, .int .i64 x1, .int .i64 y1, .int .i64 s, .slice A zs.length c] 26)).alloc (.cells #[.int .i64 a0, .int .i64 b0, .int .i64 a1, .int .i64 b1] 23)).alloc (.cells #[.int .i64 e0, .int .i64 f0, .int .i64 e1, .int .i64 f1] 23)).cell? ⟨w.heap.size + 1, 1, none⟩ = some (.int .i64 b0) := by first | (simp; done) | go_simp
  have R2 : (((w.alloc (.cells #[.int .i64 x0, .int .i64 y0, .int .i64 x1, .int .i64 y1, .int .i64 s, .slice A zs.length c] 26)).alloc (.cells #[.int .i64 a0, .int .i64 b0, .int .i64 a1, .int .i64 b1] 23)).alloc (.cells #[.int .i64 e0, .int .i64 f0, .int .i64 e1, .int .i64 f1] 23)).cell? ⟨w.heap.size + 1, 2, none⟩ = some (.int .i64 a1) := by first | (simp; done) | go_simp
  have R3 : (((w.alloc (.cells #[.int .i64 x0, .int .i64 y0, .int .i64 x1, .int .i64 y1, .int .i64 s, .slice A zs.length c] 26)).alloc (.cells #[.int .i64 a0, .int .i64 b0, .int .i64 a1, .int .i64 b1] 23)).alloc (.cells #[.int .i64 e0, .int .i64 f0, .int .i64 e1, .int .i64 f1] 23)).cell? ⟨w.heap.size + 1, 3, none⟩ = some (.int .i64 b1) := by first | (simp; done) | go_simp
  have S0 : (((w.alloc (.cells #[.int .i64 x0, .int .i64 y0, .int .i64 x1, .int .i64 y1, .int .i64 s, .slice A zs.length c] 26)).alloc (.cells #[.int .i64 a0, .int .i64 b0, .int .i64 a1, .int .i64 b1] 23)).alloc (.cells #[.int .i64 e0, .int .i64 f0, .int .i64 e1, .int .i64 f1] 23)).cell? ⟨w.heap.size + 2, 0, none⟩ = some (.int .i64 e0) := by first | (simp; done) | go_simp
  have S1 : (((w.alloc (.cells #[.int .i64 x0, .int .i64 y0, .int .i64 x1, .int .i64 y1, .int .i64 s, .slice A zs.length c] 26)).alloc (.cells #[.int .i64 a0, .int .i64 b0, .int .i64 a1, .int .i64 b1] 23)).alloc (.cells #[.int .i64 e0, .int .i64 f0, .int .i64 e1, .int .i64 f1] 23)).cell? ⟨w.heap.size + 2, 1, none⟩ = some (.int .i64 f0) := by first | (simp; done) | go_simp
  have S2 : (((w.alloc (.cells #[.int .i64 x0, .int .i64 y0, .int .i64 x1, .int .i64 y1, .int .i64 s, .slice A zs.length c] 26)).alloc (.cells #[.int .i64 a0, .int .i64 b0, .int .i64 a1, .int .i64 b1] 23)).alloc (.cells #[.int .i64 e0, .int .i64 f0, .int .i64 e1, .int .i64 f1] 23)).cell? ⟨w.heap.size + 2, 2, none⟩ = some (.int .i64 e1) := by first | (simp; done) | go_simp
  have S3 : (((w.alloc (.cells #[.int .i64 x0, .int .i64 y0, .int .i64 x1, .int .i64 y1, .int .i64 s, .slice A zs.length c] 26)).alloc (.cells #[.int .i64 a0, .int .i64 b0, .int .i64 a1, .int .i64 b1] 23)).alloc (.cells #[.int .i64 e0, .int .i64 f0, .int .i64 e1, .int .i64 f1] 23)).cell? ⟨w.heap.size + 2, 3, none⟩ = some (.int .i64 f1) := by first | (simp; done) | go_simp
  have HR := Lib.hid (hr.out.below hB)
  go_enter Try.func12, Try.ntmps12
  go_wp2_with fail
  generalize ((w.alloc (.cells #[.int .i64 x0, .int .i64 y0, .int .i64 x1, .int .i64 y1, .int .i64 s, .slice A zs.length c] 26)).alloc (.cells #[.int .i64 a0, .int .i64 b0, .int .i64 a1, .int .i64 b1] 23)).alloc (.cells #[.int .i64 e0, .int .i64 f0, .int .i64 e1, .int .i64 f1] 23) = W0 at *
  refine (fitsK_any x0 y0 x1 y1 s A c zs true (by simp [hF.out]) _).mono ?_
  rintro e w1 ⟨rfl, hb1⟩
  replace D0 := cell_kept D0 hb1
  replace D1 := cell_kept D1 hb1
  replace D2 := cell_kept D2 hb1
  replace D3 := cell_kept D3 hb1
  replace D4 := cell_kept D4 hb1
  replace D5 := cell_kept D5 hb1
  replace R0 := cell_kept R0 hb1
  replace R1 := cell_kept R1 hb1
  replace R2 := cell_kept R2 hb1
  replace R3 := cell_kept R3 hb1
  replace S0 := cell_kept S0 hb1
  replace S1 := cell_kept S1 hb1
  replace S2 := cell_kept S2 hb1
  replace S3 := cell_kept S3 hb1
  replace HR := Lib.hid (HR.out.below hb1)
  replace hB := hB.trans (hb1.mono hB.size)
  clear hb1
  go_wp2_with fail
  refine (box_any a0 b0 a1 b1 _).mono ?_
  rintro e w2 ⟨rfl, hb2⟩
  replace D0 := cell_kept D0 hb2
  replace D1 := cell_kept D1 hb2
  replace D2 := cell_kept D2 hb2
  replace D3 := cell_kept D3 hb2
  replace D4 := cell_kept D4 hb2
  replace D5 := cell_kept D5 hb2
  replace R0 := cell_kept R0 hb2
  replace R1 := cell_kept R1 hb2
  replace R2 := cell_kept R2 hb2
  replace R3 := cell_kept R3 hb2
  replace S0 := cell_kept S0 hb2
  replace S1 := cell_kept S1 hb2
  replace S2 := cell_kept S2 hb2
  replace S3 := cell_kept S3 hb2
  replace HR := Lib.hid (HR.out.below hb2)
  replace hB := hB.trans (hb2.mono hB.size)
  clear hb2
  go_wp2_with fail
  refine (near4_any a0 b0 a1 b1 true (by simp [hN.out]) _).mono ?_
  rintro e w3 ⟨rfl, hb3⟩
  replace D0 := cell_kept D0 hb3
  replace D1 := cell_kept D1 hb3
  replace D2 := cell_kept D2 hb3
  replace D3 := cell_kept D3 hb3
  replace D4 := cell_kept D4 hb3
  replace D5 := cell_kept D5 hb3
  replace R0 := cell_kept R0 hb3
  replace R1 := cell_kept R1 hb3
  replace R2 := cell_kept R2 hb3
  replace R3 := cell_kept R3 hb3
  replace S0 := cell_kept S0 hb3
  replace S1 := cell_kept S1 hb3
  replace S2 := cell_kept S2 hb3
  replace S3 := cell_kept S3 hb3
  replace HR := Lib.hid (HR.out.below hb3)
  replace hB := hB.trans (hb3.mono hB.size)
  clear hb3
  go_wp2_with fail
  refine (box_any e0 f0 e1 f1 _).mono ?_
  rintro e w4 ⟨rfl, hb4⟩
  replace D0 := cell_kept D0 hb4
  replace D1 := cell_kept D1 hb4
  replace D2 := cell_kept D2 hb4
  replace D3 := cell_kept D3 hb4
  replace D4 := cell_kept D4 hb4
  replace D5 := cell_kept D5 hb4
  replace R0 := cell_kept R0 hb4
  replace R1 := cell_kept R1 hb4
  replace R2 := cell_kept R2 hb4
  replace R3 := cell_kept R3 hb4
  replace S0 := cell_kept S0 hb4
  replace S1 := cell_kept S1 hb4
  replace S2 := cell_kept S2 hb4
  replace S3 := cell_kept S3 hb4
  replace HR := Lib.hid (HR.out.below hb4)
  replace hB := hB.trans (hb4.mono hB.size)
  clear hb4
  go_wp2_with fail
  refine (near4_any e0 f0 e1 f1 true (by simp [hM.out]) _).mono ?_
  rintro e w5 ⟨rfl, hb5⟩
  replace D0 := cell_kept D0 hb5
  replace D1 := cell_kept D1 hb5
  replace D2 := cell_kept D2 hb5
  replace D3 := cell_kept D3 hb5
  replace D4 := cell_kept D4 hb5
  replace D5 := cell_kept D5 hb5
  replace R0 := cell_kept R0 hb5
  replace R1 := cell_kept R1 hb5
  replace R2 := cell_kept R2 hb5
  replace R3 := cell_kept R3 hb5
  replace S0 := cell_kept S0 hb5
  replace S1 := cell_kept S1 hb5
  replace S2 := cell_kept S2 hb5
  replace S3 := cell_kept S3 hb5
  replace HR := Lib.hid (HR.out.below hb5)
  replace hB := hB.trans (hb5.mono hB.size)
  clear hb5
  go_wp2_with fail
  refine (implSub_any x0 y0 x1 y1 s A c zs a0 b0 a1 b1 _ HR hl hn hF).mono ?_
  rintro e w6 ⟨X0, Y0, X1, Y1, T1, A1, cp1, z1, HSM, rfl, hown, hb6⟩
  have HRM := Lib.hid (Reads.of_own hown)
  have HNM := Lib.hid (own_nil hown)
  replace HSM := Lib.hid HSM
  have HFM := Lib.hid (HSM.out.fits hF.out)
  have hlz1 := HSM.out.small hl
  clear hown
  replace D0 := cell_kept D0 hb6
  replace D1 := cell_kept D1 hb6
  replace D2 := cell_kept D2 hb6
  replace D3 := cell_kept D3 hb6
  replace D4 := cell_kept D4 hb6
  replace D5 := cell_kept D5 hb6
  replace R0 := cell_kept R0 hb6
  replace R1 := cell_kept R1 hb6
  replace R2 := cell_kept R2 hb6
  replace R3 := cell_kept R3 hb6
  replace S0 := cell_kept S0 hb6
  replace S1 := cell_kept S1 hb6
  replace S2 := cell_kept S2 hb6
  replace S3 := cell_kept S3 hb6
  replace HR := Lib.hid (HR.out.below hb6)
  replace hB := hB.trans (hb6.mono hB.size)
  clear hb6
  have aw : Below w6.heap.size w6 (w6.alloc (.cells #[.int .i64 X0, .int .i64 Y0, .int .i64 X1, .int .i64 Y1, .int .i64 T1, .slice A1 z1.length cp1] 26)) := (Below.refl _ _).alloc (Nat.le_refl _) _
  replace D0 := cell_kept D0 aw
  replace D1 := cell_kept D1 aw
  replace D2 := cell_kept D2 aw
  replace D3 := cell_kept D3 aw
  replace D4 := cell_kept D4 aw
  replace D5 := cell_kept D5 aw
  replace R0 := cell_kept R0 aw
  replace R1 := cell_kept R1 aw
  replace R2 := cell_kept R2 aw
  replace R3 := cell_kept R3 aw
  replace S0 := cell_kept S0 aw
  replace S1 := cell_kept S1 aw
  replace S2 := cell_kept S2 aw
  replace S3 := cell_kept S3 aw
  replace HR := Lib.hid (HR.out.below aw)
  replace HRM := Lib.hid (HRM.out.below aw)
  replace hB := hB.trans (aw.mono hB.size)
  have M0 : (w6.alloc (.cells #[.int .i64 X0, .int .i64 Y0, .int .i64 X1, .int .i64 Y1, .int .i64 T1, .slice A1 z1.length cp1] 26)).cell? ⟨w6.heap.size, 0, none⟩ = some (.int .i64 X0) := by simp
  have M1 : (w6.alloc (.cells #[.int .i64 X0, .int .i64 Y0, .int .i64 X1, .int .i64 Y1, .int .i64 T1, .slice A1 z1.length cp1] 26)).cell? ⟨w6.heap.size, 1, none⟩ = some (.int .i64 Y0) := by simp
  have M2 : (w6.alloc (.cells #[.int .i64 X0, .int .i64 Y0, .int .i64 X1, .int .i64 Y1, .int .i64 T1, .slice A1 z1.length cp1] 26)).cell? ⟨w6.heap.size, 2, none⟩ = some (.int .i64 X1) := by simp
  have M3 : (w6.alloc (.cells #[.int .i64 X0, .int .i64 Y0, .int .i64 X1, .int .i64 Y1, .int .i64 T1, .slice A1 z1.length cp1] 26)).cell? ⟨w6.heap.size, 3, none⟩ = some (.int .i64 Y1) := by simp
  have M4 : (w6.alloc (.cells #[.int .i64 X0, .int .i64 Y0, .int .i64 X1, .int .i64 Y1, .int .i64 T1, .slice A1 z1.length cp1] 26)).cell? ⟨w6.heap.size, 4, none⟩ = some (.int .i64 T1) := by simp
  have M5 : (w6.alloc (.cells #[.int .i64 X0, .int .i64 Y0, .int .i64 X1, .int .i64 Y1, .int .i64 T1, .slice A1 z1.length cp1] 26)).cell? ⟨w6.heap.size, 5, none⟩ = some (.slice A1 z1.length cp1) := by simp
  have hltWA : w6.heap.size < (w6.alloc (.cells #[.int .i64 X0, .int .i64 Y0, .int .i64 X1, .int .i64 Y1, .int .i64 T1, .slice A1 z1.length cp1] 26)).heap.size := by simp
  clear aw
  go_wp2_with fail
  generalize w6.alloc (.cells #[.int .i64 X0, .int .i64 Y0, .int .i64 X1, .int .i64 Y1, .int .i64 T1, .slice A1 z1.length cp1] 26) = WA at *
  generalize w6.heap.size = ba at *
  go_wp2_with fail
  refine (implSub_any X0 Y0 X1 Y1 T1 A1 cp1 z1 e0 f0 e1 f1 _ HRM hlz1 HNM HFM).mono ?_
  rintro e w7 ⟨U0, V0, U1, V1, T2, A2, cp2, z2, HSN, rfl, hown, hb7⟩
  have HRN := Lib.hid (Reads.of_own hown)
  have HNN := Lib.hid (own_nil hown)
  replace HSN := Lib.hid HSN
  have HFN := Lib.hid (HSN.out.fits HFM.out)
  have hlz2 := HSN.out.small hlz1
  clear hown
  replace D0 := cell_kept D0 hb7
  replace D1 := cell_kept D1 hb7
  replace D2 := cell_kept D2 hb7
  replace D3 := cell_kept D3 hb7
  replace D4 := cell_kept D4 hb7
  replace D5 := cell_kept D5 hb7
  replace R0 := cell_kept R0 hb7
  replace R1 := cell_kept R1 hb7
  replace R2 := cell_kept R2 hb7
  replace R3 := cell_kept R3 hb7
  replace S0 := cell_kept S0 hb7
  replace S1 := cell_kept S1 hb7
  replace S2 := cell_kept S2 hb7
  replace S3 := cell_kept S3 hb7
  replace M0 := cell_kept M0 hb7
  replace M1 := cell_kept M1 hb7
  replace M2 := cell_kept M2 hb7
  replace M3 := cell_kept M3 hb7
  replace M4 := cell_kept M4 hb7
  replace M5 := cell_kept M5 hb7
  replace HR := Lib.hid (HR.out.below hb7)
  replace HRM := Lib.hid (HRM.out.below hb7)
  replace hB := hB.trans (hb7.mono hB.size)
  clear hb7
  have aw : Below w7.heap.size w7 (w7.alloc (.cells #[.int .i64 U0, .int .i64 V0, .int .i64 U1, .int .i64 V1, .int .i64 T2, .slice A2 z2.length cp2] 26)) := (Below.refl _ _).alloc (Nat.le_refl _) _
  replace D0 := cell_kept D0 aw
  replace D1 := cell_kept D1 aw
  replace D2 := cell_kept D2 aw
  replace D3 := cell_kept D3 aw
  replace D4 := cell_kept D4 aw
  replace D5 := cell_kept D5 aw
  replace R0 := cell_kept R0 aw
  replace R1 := cell_kept R1 aw
  replace R2 := cell_kept R2 aw
  replace R3 := cell_kept R3 aw
  replace S0 := cell_kept S0 aw
  replace S1 := cell_kept S1 aw
  replace S2 := cell_kept S2 aw
  replace S3 := cell_kept S3 aw
  replace M0 := cell_kept M0 aw
  replace M1 := cell_kept M1 aw
  replace M2 := cell_kept M2 aw
  replace M3 := cell_kept M3 aw
  replace M4 := cell_kept M4 aw
  replace M5 := cell_kept M5 aw
  replace HR := Lib.hid (HR.out.below aw)
  replace HRM := Lib.hid (HRM.out.below aw)
  replace HRN := Lib.hid (HRN.out.below aw)
  replace hB := hB.trans (aw.mono hB.size)
  have N0 : (w7.alloc (.cells #[.int .i64 U0, .int .i64 V0, .int .i64 U1, .int .i64 V1, .int .i64 T2, .slice A2 z2.length cp2] 26)).cell? ⟨w7.heap.size, 0, none⟩ = some (.int .i64 U0) := by simp
  have N1 : (w7.alloc (.cells #[.int .i64 U0, .int .i64 V0, .int .i64 U1, .int .i64 V1, .int .i64 T2, .slice A2 z2.length cp2] 26)).cell? ⟨w7.heap.size, 1, none⟩ = some (.int .i64 V0) := by simp
  have N2 : (w7.alloc (.cells #[.int .i64 U0, .int .i64 V0, .int .i64 U1, .int .i64 V1, .int .i64 T2, .slice A2 z2.length cp2] 26)).cell? ⟨w7.heap.size, 2, none⟩ = some (.int .i64 U1) := by simp
  have N3 : (w7.alloc (.cells #[.int .i64 U0, .int .i64 V0, .int .i64 U1, .int .i64 V1, .int .i64 T2, .slice A2 z2.length cp2] 26)).cell? ⟨w7.heap.size, 3, none⟩ = some (.int .i64 V1) := by simp
  have N4 : (w7.alloc (.cells #[.int .i64 U0, .int .i64 V0, .int .i64 U1, .int .i64 V1, .int .i64 T2, .slice A2 z2.length cp2] 26)).cell? ⟨w7.heap.size, 4, none⟩ = some (.int .i64 T2) := by simp
  have N5 : (w7.alloc (.cells #[.int .i64 U0, .int .i64 V0, .int .i64 U1, .int .i64 V1, .int .i64 T2, .slice A2 z2.length cp2] 26)).cell? ⟨w7.heap.size, 5, none⟩ = some (.slice A2 z2.length cp2) := by simp
  have hltWB : w7.heap.size < (w7.alloc (.cells #[.int .i64 U0, .int .i64 V0, .int .i64 U1, .int .i64 V1, .int .i64 T2, .slice A2 z2.length cp2] 26)).heap.size := by simp
  clear aw
  go_wp2_with fail
  generalize w7.alloc (.cells #[.int .i64 U0, .int .i64 V0, .int .i64 U1, .int .i64 V1, .int .i64 T2, .slice A2 z2.length cp2] 26) = WB at *
  generalize w7.heap.size = bb at *
  clear M0 M1 M2 M3 M4 M5
  have tok1 : True := trivial
  go_upto_region 5 with fail
  have P0 : Below WB.heap.size WB WB.drew := (Below.refl _ _).drew
  have P0a : Below WB.heap.size WB (WB.alloc (.cells #[.int .i64 0, .int .i64 0, .int .i64 0, .int .i64 0] 32)).drew := ((Below.refl _ _).alloc (Nat.le_refl _) _).drew
  have toS : ∀ W' : World, Below WB.heap.size WB W' → (W'.cell? ⟨w.heap.size + 1, 0, none⟩ = some (.int .i64 a0) ∧ W'.cell? ⟨w.heap.size + 1, 1, none⟩ = some (.int .i64 b0) ∧ W'.cell? ⟨w.heap.size + 1, 2, none⟩ = some (.int .i64 a1) ∧ W'.cell? ⟨w.heap.size + 1, 3, none⟩ = some (.int .i64 b1) ∧ W'.cell? ⟨w.heap.size + 2, 0, none⟩ = some (.int .i64 e0) ∧ W'.cell? ⟨w.heap.size + 2, 1, none⟩ = some (.int .i64 f0) ∧ W'.cell? ⟨w.heap.size + 2, 2, none⟩ = some (.int .i64 e1) ∧ W'.cell? ⟨w.heap.size + 2, 3, none⟩ = some (.int .i64 f1)) := fun W' h => ⟨cell_kept R0 h, cell_kept R1 h, cell_kept R2 h, cell_kept R3 h, cell_kept S0 h, cell_kept S1 h, cell_kept S2 h, cell_kept S3 h⟩
  have TOS := Lib.hid toS
  clear toS
  go_cut [15, 16] (fun pp qq wx => ∃ bc : Nat, pp = .pointer (some ⟨bc, 0, none⟩) ∧ qq = .bool false ∧ WB.heap.size ≤ bc ∧ bc < wx.heap.size ∧ Below WB.heap.size WB wx ∧ wx.cell? ⟨bc, 0, none⟩ = some (.int .i64 0) ∧ wx.cell? ⟨bc, 1, none⟩ = some (.int .i64 0) ∧ wx.cell? ⟨bc, 2, none⟩ = some (.int .i64 0) ∧ wx.cell? ⟨bc, 3, none⟩ = some (.int .i64 0))
  case first =>
    go_region_held3 (fun w' => w'.cell? ⟨w.heap.size + 1, 0, none⟩ = some (.int .i64 a0) ∧ w'.cell? ⟨w.heap.size + 1, 1, none⟩ = some (.int .i64 b0) ∧ w'.cell? ⟨w.heap.size + 1, 2, none⟩ = some (.int .i64 a1) ∧ w'.cell? ⟨w.heap.size + 1, 3, none⟩ = some (.int .i64 b1) ∧ w'.cell? ⟨w.heap.size + 2, 0, none⟩ = some (.int .i64 e0) ∧ w'.cell? ⟨w.heap.size + 2, 1, none⟩ = some (.int .i64 f0) ∧ w'.cell? ⟨w.heap.size + 2, 2, none⟩ = some (.int .i64 e1) ∧ w'.cell? ⟨w.heap.size + 2, 3, none⟩ = some (.int .i64 f1))
      ((refine TOS.out _ ?_; first | with_reducible exact P0 | with_reducible exact P0a | with_reducible exact P1 | with_reducible exact P1.alloc P1.size _ | with_reducible exact P2 | with_reducible exact P2.alloc P2.size _ | with_reducible exact P3 | with_reducible exact P3.alloc P3.size _ | with_reducible exact ((((P3.setCell (Nat.le_refl _) _).setCell (Nat.le_refl _) _).setCell (Nat.le_refl _) _).setCell (Nat.le_refl _) _) | with_reducible exact ((((P3.setCell P1.size _).setCell P1.size _).setCell P1.size _).setCell P1.size _) | with_reducible exact ((((P3.setCell P2.size _).setCell P2.size _).setCell P2.size _).setCell P2.size _)))
      (first | (go_at_call 21; have _t := tok1; refine (box_any a0 b0 a1 b1 _).mono ?_; rintro e u1 ⟨rfl, hv1⟩; clear tok1; (first | (have P1 : Below WB.heap.size WB u1 := P0.trans (hv1.mono P0.size); skip) | (have P1 : Below WB.heap.size WB u1 := P0a.trans (hv1.mono P0a.size); have zc0 : u1.cell? ⟨WB.heap.size, 0, none⟩ = some (.int .i64 0) := ((bcell hv1).1 _ 0 (by simp)).trans (by simp); have zf0 : u1.frozen? ⟨WB.heap.size, 0, none⟩ = false := ((bcell hv1).2 _ 0 (by simp)).trans (by simp); have zc1 : u1.cell? ⟨WB.heap.size, 1, none⟩ = some (.int .i64 0) := ((bcell hv1).1 _ 1 (by simp)).trans (by simp); have zf1 : u1.frozen? ⟨WB.heap.size, 1, none⟩ = false := ((bcell hv1).2 _ 1 (by simp)).trans (by simp); have zc2 : u1.cell? ⟨WB.heap.size, 2, none⟩ = some (.int .i64 0) := ((bcell hv1).1 _ 2 (by simp)).trans (by simp); have zf2 : u1.frozen? ⟨WB.heap.size, 2, none⟩ = false := ((bcell hv1).2 _ 2 (by simp)).trans (by simp); have zc3 : u1.cell? ⟨WB.heap.size, 3, none⟩ = some (.int .i64 0) := ((bcell hv1).1 _ 3 (by simp)).trans (by simp); have zf3 : u1.frozen? ⟨WB.heap.size, 3, none⟩ = false := ((bcell hv1).2 _ 3 (by simp)).trans (by simp)))) | (go_at_call 21; refine (box_any e0 f0 e1 f1 _).mono ?_; rintro e u2 ⟨rfl, hv2⟩; (first | (have P2 : Below WB.heap.size WB u2 := P1.trans (hv2.mono P1.size); (try (replace zf0 := frozenK zc0 zf0 hv2; replace zc0 := cell_kept zc0 hv2; replace zf1 := frozenK zc1 zf1 hv2; replace zc1 := cell_kept zc1 hv2; replace zf2 := frozenK zc2 zf2 hv2; replace zc2 := cell_kept zc2 hv2; replace zf3 := frozenK zc3 zf3 hv2; replace zc3 := cell_kept zc3 hv2))) | (have P2 : Below WB.heap.size WB u2 := (P1.alloc P1.size (.cells #[.int .i64 0, .int .i64 0, .int .i64 0, .int .i64 0] 32)).trans (hv2.mono (P1.alloc P1.size (.cells #[.int .i64 0, .int .i64 0, .int .i64 0, .int .i64 0] 32)).size); have zc0 : u2.cell? ⟨u1.heap.size, 0, none⟩ = some (.int .i64 0) := ((bcell hv2).1 _ 0 (by simp)).trans (by simp); have zf0 : u2.frozen? ⟨u1.heap.size, 0, none⟩ = false := ((bcell hv2).2 _ 0 (by simp)).trans (by simp); have zc1 : u2.cell? ⟨u1.heap.size, 1, none⟩ = some (.int .i64 0) := ((bcell hv2).1 _ 1 (by simp)).trans (by simp); have zf1 : u2.frozen? ⟨u1.heap.size, 1, none⟩ = false := ((bcell hv2).2 _ 1 (by simp)).trans (by simp); have zc2 : u2.cell? ⟨u1.heap.size, 2, none⟩ = some (.int .i64 0) := ((bcell hv2).1 _ 2 (by simp)).trans (by simp); have zf2 : u2.frozen? ⟨u1.heap.size, 2, none⟩ = false := ((bcell hv2).2 _ 2 (by simp)).trans (by simp); have zc3 : u2.cell? ⟨u1.heap.size, 3, none⟩ = some (.int .i64 0) := ((bcell hv2).1 _ 3 (by simp)).trans (by simp); have zf3 : u2.frozen? ⟨u1.heap.size, 3, none⟩ = false := ((bcell hv2).2 _ 3 (by simp)).trans (by simp)))) | (go_at_call 35; refine (common_none a0 b0 a1 b1 e0 f0 e1 f1 _ hE.out).mono ?_; rintro e u3 ⟨rfl, hv3⟩; (first | (have P3 : Below WB.heap.size WB u3 := P2.trans (hv3.mono P2.size); (try (replace zf0 := frozenK zc0 zf0 hv3; replace zc0 := cell_kept zc0 hv3; replace zf1 := frozenK zc1 zf1 hv3; replace zc1 := cell_kept zc1 hv3; replace zf2 := frozenK zc2 zf2 hv3; replace zc2 := cell_kept zc2 hv3; replace zf3 := frozenK zc3 zf3 hv3; replace zc3 := cell_kept zc3 hv3))) | (have P3 : Below WB.heap.size WB u3 := (P2.alloc P2.size (.cells #[.int .i64 0, .int .i64 0, .int .i64 0, .int .i64 0] 32)).trans (hv3.mono (P2.alloc P2.size (.cells #[.int .i64 0, .int .i64 0, .int .i64 0, .int .i64 0] 32)).size); have zc0 : u3.cell? ⟨u2.heap.size, 0, none⟩ = some (.int .i64 0) := ((bcell hv3).1 _ 0 (by simp)).trans (by simp); have zf0 : u3.frozen? ⟨u2.heap.size, 0, none⟩ = false := ((bcell hv3).2 _ 0 (by simp)).trans (by simp); have zc1 : u3.cell? ⟨u2.heap.size, 1, none⟩ = some (.int .i64 0) := ((bcell hv3).1 _ 1 (by simp)).trans (by simp); have zf1 : u3.frozen? ⟨u2.heap.size, 1, none⟩ = false := ((bcell hv3).2 _ 1 (by simp)).trans (by simp); have zc2 : u3.cell? ⟨u2.heap.size, 2, none⟩ = some (.int .i64 0) := ((bcell hv3).1 _ 2 (by simp)).trans (by simp); have zf2 : u3.frozen? ⟨u2.heap.size, 2, none⟩ = false := ((bcell hv3).2 _ 2 (by simp)).trans (by simp); have zc3 : u3.cell? ⟨u2.heap.size, 3, none⟩ = some (.int .i64 0) := ((bcell hv3).1 _ 3 (by simp)).trans (by simp); have zf3 : u3.frozen? ⟨u2.heap.size, 3, none⟩ = false := ((bcell hv3).2 _ 3 (by simp)).trans (by simp)))))
    all_goals
      go_wp2_with fail
      go_meet
      have z1 := P1.size
      have z2 := P2.size
      have z3 := P3.size
      have y2 := hv2.size
      have y3 := hv3.size
      first
        | exact ⟨u3.heap.size, rfl, rfl, P3.size, by simp, P3.alloc P3.size _, by simp, by simp, by simp, by simp⟩
        | exact ⟨WB.heap.size, rfl, rfl, Nat.le_refl _, lt_sets (World.block_lt_of_cell? _ _ zc0) (by simp [World.setCell]), ((((P3.setCell (Nat.le_refl _) _).setCell (Nat.le_refl _) _).setCell (Nat.le_refl _) _).setCell (Nat.le_refl _) _), by go_simp, by go_simp, by go_simp, by go_simp⟩
        | exact ⟨u1.heap.size, rfl, rfl, P1.size, lt_sets (World.block_lt_of_cell? _ _ zc0) (by simp [World.setCell]), ((((P3.setCell P1.size _).setCell P1.size _).setCell P1.size _).setCell P1.size _), by go_simp, by go_simp, by go_simp, by go_simp⟩
        | exact ⟨u2.heap.size, rfl, rfl, P2.size, lt_sets (World.block_lt_of_cell? _ _ zc0) (by simp [World.setCell]), ((((P3.setCell P2.size _).setCell P2.size _).setCell P2.size _).setCell P2.size _), by go_simp, by go_simp, by go_simp, by go_simp⟩
  case rest =>
    clear TOS P0 P0a
    obtain ⟨bc, rfl, rfl, hbc, hbl, hBm, cc0, cc1, cc2, cc3⟩ := hcut
    replace D0 := cell_kept D0 hBm
    replace D1 := cell_kept D1 hBm
    replace D2 := cell_kept D2 hBm
    replace D3 := cell_kept D3 hBm
    replace D4 := cell_kept D4 hBm
    replace D5 := cell_kept D5 hBm
    replace R0 := cell_kept R0 hBm
    replace R1 := cell_kept R1 hBm
    replace R2 := cell_kept R2 hBm
    replace R3 := cell_kept R3 hBm
    replace S0 := cell_kept S0 hBm
    replace S1 := cell_kept S1 hBm
    replace S2 := cell_kept S2 hBm
    replace S3 := cell_kept S3 hBm
    replace N0 := cell_kept N0 hBm
    replace N1 := cell_kept N1 hBm
    replace N2 := cell_kept N2 hBm
    replace N3 := cell_kept N3 hBm
    replace N4 := cell_kept N4 hBm
    replace N5 := cell_kept N5 hBm
    replace HR := Lib.hid (HR.out.below hBm)
    replace HRM := Lib.hid (HRM.out.below hBm)
    replace HRN := Lib.hid (HRN.out.below hBm)
    replace hB := hB.trans (hBm.mono hB.size)
    clear hBm hbc
    have HX : Hid (Empt U0 V0 U1 V1) := subsub_none HSM.out HSN.out hE.out
    go_wp2_with fail
    refine (implSub_any x0 y0 x1 y1 s A c zs 0 0 0 0 _ HR hl hn hF).mono ?_
    rintro e w8 ⟨P0, Q0, P1, Q1, T3, A3, cp3, z3, HSE, rfl, hown, hb8⟩
    have HRE := Lib.hid (Reads.of_own hown)
    have HNE := Lib.hid (own_nil hown)
    replace HSE := Lib.hid HSE
    have HFE := Lib.hid (HSE.out.fits hF.out)
    have hlz3 := HSE.out.small hl
    clear hown
    replace D0 := cell_kept D0 hb8
    replace D1 := cell_kept D1 hb8
    replace D2 := cell_kept D2 hb8
    replace D3 := cell_kept D3 hb8
    replace D4 := cell_kept D4 hb8
    replace D5 := cell_kept D5 hb8
    replace R0 := cell_kept R0 hb8
    replace R1 := cell_kept R1 hb8
    replace R2 := cell_kept R2 hb8
    replace R3 := cell_kept R3 hb8
    replace S0 := cell_kept S0 hb8
    replace S1 := cell_kept S1 hb8
    replace S2 := cell_kept S2 hb8
    replace S3 := cell_kept S3 hb8
    replace N0 := cell_kept N0 hb8
    replace N1 := cell_kept N1 hb8
    replace N2 := cell_kept N2 hb8
    replace N3 := cell_kept N3 hb8
    replace N4 := cell_kept N4 hb8
    replace N5 := cell_kept N5 hb8
    replace cc0 := cell_kept cc0 hb8
    replace cc1 := cell_kept cc1 hb8
    replace cc2 := cell_kept cc2 hb8
    replace cc3 := cell_kept cc3 hb8
    replace HR := Lib.hid (HR.out.below hb8)
    replace HRM := Lib.hid (HRM.out.below hb8)
    replace HRN := Lib.hid (HRN.out.below hb8)
    replace hB := hB.trans (hb8.mono hB.size)
    clear hb8
    have aw : Below w8.heap.size w8 (w8.alloc (.cells #[.int .i64 P0, .int .i64 Q0, .int .i64 P1, .int .i64 Q1, .int .i64 T3, .slice A3 z3.length cp3] 26)) := (Below.refl _ _).alloc (Nat.le_refl _) _
    replace D0 := cell_kept D0 aw
    replace D1 := cell_kept D1 aw
    replace D2 := cell_kept D2 aw
    replace D3 := cell_kept D3 aw
    replace D4 := cell_kept D4 aw
    replace D5 := cell_kept D5 aw
    replace R0 := cell_kept R0 aw
    replace R1 := cell_kept R1 aw
    replace R2 := cell_kept R2 aw
    replace R3 := cell_kept R3 aw
    replace S0 := cell_kept S0 aw
    replace S1 := cell_kept S1 aw
    replace S2 := cell_kept S2 aw
    replace S3 := cell_kept S3 aw
    replace N0 := cell_kept N0 aw
    replace N1 := cell_kept N1 aw
    replace N2 := cell_kept N2 aw
    replace N3 := cell_kept N3 aw
    replace N4 := cell_kept N4 aw
    replace N5 := cell_kept N5 aw
    replace cc0 := cell_kept cc0 aw
    replace cc1 := cell_kept cc1 aw
    replace cc2 := cell_kept cc2 aw
    replace cc3 := cell_kept cc3 aw
    replace HR := Lib.hid (HR.out.below aw)
    replace HRM := Lib.hid (HRM.out.below aw)
    replace HRN := Lib.hid (HRN.out.below aw)
    replace HRE := Lib.hid (HRE.out.below aw)
    replace hB := hB.trans (aw.mono hB.size)
    have E0 : (w8.alloc (.cells #[.int .i64 P0, .int .i64 Q0, .int .i64 P1, .int .i64 Q1, .int .i64 T3, .slice A3 z3.length cp3] 26)).cell? ⟨w8.heap.size, 0, none⟩ = some (.int .i64 P0) := by simp
    have E1 : (w8.alloc (.cells #[.int .i64 P0, .int .i64 Q0, .int .i64 P1, .int .i64 Q1, .int .i64 T3, .slice A3 z3.length cp3] 26)).cell? ⟨w8.heap.size, 1, none⟩ = some (.int .i64 Q0) := by simp
    have E2 : (w8.alloc (.cells #[.int .i64 P0, .int .i64 Q0, .int .i64 P1, .int .i64 Q1, .int .i64 T3, .slice A3 z3.length cp3] 26)).cell? ⟨w8.heap.size, 2, none⟩ = some (.int .i64 P1) := by simp
    have E3 : (w8.alloc (.cells #[.int .i64 P0, .int .i64 Q0, .int .i64 P1, .int .i64 Q1, .int .i64 T3, .slice A3 z3.length cp3] 26)).cell? ⟨w8.heap.size, 3, none⟩ = some (.int .i64 Q1) := by simp
    have E4 : (w8.alloc (.cells #[.int .i64 P0, .int .i64 Q0, .int .i64 P1, .int .i64 Q1, .int .i64 T3, .slice A3 z3.length cp3] 26)).cell? ⟨w8.heap.size, 4, none⟩ = some (.int .i64 T3) := by simp
    have E5 : (w8.alloc (.cells #[.int .i64 P0, .int .i64 Q0, .int .i64 P1, .int .i64 Q1, .int .i64 T3, .slice A3 z3.length cp3] 26)).cell? ⟨w8.heap.size, 5, none⟩ = some (.slice A3 z3.length cp3) := by simp
    have hltWE : w8.heap.size < (w8.alloc (.cells #[.int .i64 P0, .int .i64 Q0, .int .i64 P1, .int .i64 Q1, .int .i64 T3, .slice A3 z3.length cp3] 26)).heap.size := by simp
    clear aw
    go_wp2_with fail
    generalize w8.alloc (.cells #[.int .i64 P0, .int .i64 Q0, .int .i64 P1, .int .i64 Q1, .int .i64 T3, .slice A3 z3.length cp3] 26) = WE at *
    generalize w8.heap.size = be at *
    clear D0 D1 D2 D3 D4 D5 R0 R1 R2 R3 S0 S1 S2 S3 cc0 cc1 cc2 cc3 E0 E1 E2 E3 E4 E5
    refine (box_any U0 V0 U1 V1 _).mono ?_
    rintro e w9 ⟨rfl, hb9⟩
    replace N0 := cell_kept N0 hb9
    replace N1 := cell_kept N1 hb9
    replace N2 := cell_kept N2 hb9
    replace N3 := cell_kept N3 hb9
    replace N4 := cell_kept N4 hb9
    replace N5 := cell_kept N5 hb9
    replace HR := Lib.hid (HR.out.below hb9)
    replace HRM := Lib.hid (HRM.out.below hb9)
    replace HRN := Lib.hid (HRN.out.below hb9)
    replace HRE := Lib.hid (HRE.out.below hb9)
    replace hB := hB.trans (hb9.mono hB.size)
    clear hb9
    go_wp2_with fail
    refine (empt_any U0 V0 U1 V1 true (by simp [HX.out]) _).mono ?_
    rintro e w10 ⟨rfl, hb10⟩
    replace N0 := cell_kept N0 hb10
    replace N1 := cell_kept N1 hb10
    replace N2 := cell_kept N2 hb10
    replace N3 := cell_kept N3 hb10
    replace N4 := cell_kept N4 hb10
    replace N5 := cell_kept N5 hb10
    replace HR := Lib.hid (HR.out.below hb10)
    replace HRM := Lib.hid (HRM.out.below hb10)
    replace HRN := Lib.hid (HRN.out.below hb10)
    replace HRE := Lib.hid (HRE.out.below hb10)
    replace hB := hB.trans (hb10.mono hB.size)
    clear hb10
    go_wp2
    go_ret
    exact ⟨by simp, hB⟩

set_option maxRecDepth 100000 in
set_option maxHeartbeats 4000000 in
theorem ss_some (x0 y0 x1 y1 s : Int) (A : Option Addr) (c : Nat) (zs : List Int) (a0 b0 a1 b1 e0 f0 e1 f1 x y : Int) (w : World) (hr : Hid (Reads w A zs)) (hy : Hid (Bytes zs)) (hl : Small zs) (hn : Hid (A = none → c = 0)) (hF : Hid (Fits x0 y0 x1 y1 s 2 zs.length)) (hN : Hid (Near4 a0 b0 a1 b1)) (hM : Hid (Near4 e0 f0 e1 f1)) (c0 d0 c1 d1 : Int) (m1 : Hid (max a0 e0 = c0)) (m2 : Hid (max b0 f0 = d0)) (m3 : Hid (min a1 e1 = c1)) (m4 : Hid (min b1 f1 = d1)) (n5 : Hid (max a0 e0 < min a1 e1)) (n6 : Hid (max b0 f0 < min b1 f1)) (n1 : a0 < a1) (n2 : b0 < b1) (n3 : e0 < e1) (n4 : f0 < f1) :
    Calls Try.prog 12 #[.agg #[.int .i64 x0, .int .i64 y0, .int .i64 x1, .int .i64 y1, .int .i64 s, .slice A zs.length c], .agg #[.int .i64 a0, .int .i64 b0, .int .i64 a1, .int .i64 b1], .agg #[.int .i64 e0, .int .i64 f0, .int .i64 e1, .int .i64 f1], .int .i64 x, .int .i64 y] w fun e w' => e = .returned (.bool true) ∧ Below w.heap.size w w' := by
  have hB : Below w.heap.size w (((w.alloc (.cells #[.int .i64 x0, .int .i64 y0, .int .i64 x1, .int .i64 y1, .int .i64 s, .slice A zs.length c] 26)).alloc (.cells #[.int .i64 a0, .int .i64 b0, .int .i64 a1, .int .i64 b1] 23)).alloc (.cells #[.int .i64 e0, .int .i64 f0, .int .i64 e1, .int .i64 f1] 23)) := (((Below.refl _ _).alloc (Nat.le_refl _) _).alloc (by simp) _).alloc (by simp; omega) _
  have D0 : (((w.alloc (.cells #[.int .i64 x0, .int .i64 y0, .int .i64 x1, .int .i64 y1, .int .i64 s, .slice A zs.length c] 26)).alloc (.cells #[.int .i64 a0, .int .i64 b0, .int .i64 a1, .int .i64 b1] 23)).alloc (.cells #[.int .i64 e0, .int .i64 f0, .int .i64 e1, .int .i64 f1] 23)).cell? ⟨w.heap.size, 0, none⟩ = some (.int .i64 x0) := by first | (simp; done) | go_simp
  have D1 : (((w.alloc (.cells #[.int .i64 x0, .int .i64 y0, .int .i64 x1, .int .i64 y1, .int .i64 s, .slice A zs.length c] 26)).alloc (.cells #[.int .i64 a0, .int .i64 b0, .int .i64 a1, .int .i64 b1] 23)).alloc (.cells #[.int .i64 e0, .int .i64 f0, .int .i64 e1, .int .i64 f1] 23)).cell? ⟨w.heap.size, 1, none⟩ = some (.int .i64 y0) := by first | (simp; done) | go_simp
  have D2 : (((w.alloc (.cells #[.int .i64 x0, .int .i64 y0, .int .i64 x1, .int .i64 y1, .int .i64 s, .slice A zs.length c] 26)).alloc (.cells #[.int .i64 a0, .int .i64 b0, .int .i64 a1, .int .i64 b1] 23)).alloc (.cells #[.int .i64 e0, .int .i64 f0, .int .i64 e1, .int .i64 f1] 23)).cell? ⟨w.heap.size, 2, none⟩ = some (.int .i64 x1) := by first | (simp; done) | go_simp
  have D3 : (((w.alloc (.cells #[.int .i64 x0, .int .i64 y0, .int .i64 x1, .int .i64 y1, .int .i64 s, .slice A zs.length c] 26)).alloc (.cells #[.int .i64 a0, .int .i64 b0, .int .i64 a1, .int .i64 b1] 23)).alloc (.cells #[.int .i64 e0, .int .i64 f0, .int .i64 e1, .int .i64 f1] 23)).cell? ⟨w.heap.size, 3, none⟩ = some (.int .i64 y1) := by first | (simp; done) | go_simp
  have D4 : (((w.alloc (.cells #[.int .i64 x0, .int .i64 y0, .int .i64 x1, .int .i64 y1, .int .i64 s, .slice A zs.length c] 26)).alloc (.cells #[.int .i64 a0, .int .i64 b0, .int .i64 a1, .int .i64 b1] 23)).alloc (.cells #[.int .i64 e0, .int .i64 f0, .int .i64 e1, .int .i64 f1] 23)).cell? ⟨w.heap.size, 4, none⟩ = some (.int .i64 s) := by first | (simp; done) | go_simp
  have D5 : (((w.alloc (.cells #[.int .i64 x0, .int .i64 y0, .int .i64 x1, .int .i64 y1, .int .i64 s, .slice A zs.length c] 26)).alloc (.cells #[.int .i64 a0, .int .i64 b0, .int .i64 a1, .int .i64 b1] 23)).alloc (.cells #[.int .i64 e0, .int .i64 f0, .int .i64 e1, .int .i64 f1] 23)).cell? ⟨w.heap.size, 5, none⟩ = some (.slice A zs.length c) := by first | (simp; done) | go_simp
  have R0 : (((w.alloc (.cells #[.int .i64 x0, .int .i64 y0, .int .i64 x1, .int .i64 y1, .int .i64 s, .slice A zs.length c] 26)).alloc (.cells #[.int .i64 a0, .int .i64 b0, .int .i64 a1, .int .i64 b1] 23)).alloc (.cells #[.int .i64 e0, .int .i64 f0, .int .i64 e1, .int .i64 f1] 23)).cell? ⟨w.heap.size + 1, 0, none⟩ = some (.int .i64 a0) := by first | (simp; done) | go_simp
  have R1 : (((w.alloc (.cells #[.int .i64 x0, .int .i64 y0, .int .i64 x1, .int .i64 y1, .int .i64 s, .slice A zs.length c] 26)).alloc (.cells #[.int .i64 a0, .int .i64 b0, .int .i64 a1, .int .i64 b1] 23)).alloc (.cells #[.int .i64 e0, .int .i64 f0, .int .i64 e1, .int .i64 f1] 23)).cell? ⟨w.heap.size + 1, 1, none⟩ = some (.int .i64 b0) := by first | (simp; done) | go_simp
  have R2 : (((w.alloc (.cells #[.int .i64 x0, .int .i64 y0, .int .i64 x1, .int .i64 y1, .int .i64 s, .slice A zs.length c] 26)).alloc (.cells #[.int .i64 a0, .int .i64 b0, .int .i64 a1, .int .i64 b1] 23)).alloc (.cells #[.int .i64 e0, .int .i64 f0, .int .i64 e1, .int .i64 f1] 23)).cell? ⟨w.heap.size + 1, 2, none⟩ = some (.int .i64 a1) := by first | (simp; done) | go_simp
  have R3 : (((w.alloc (.cells #[.int .i64 x0, .int .i64 y0, .int .i64 x1, .int .i64 y1, .int .i64 s, .slice A zs.length c] 26)).alloc (.cells #[.int .i64 a0, .int .i64 b0, .int .i64 a1, .int .i64 b1] 23)).alloc (.cells #[.int .i64 e0, .int .i64 f0, .int .i64 e1, .int .i64 f1] 23)).cell? ⟨w.heap.size + 1, 3, none⟩ = some (.int .i64 b1) := by first | (simp; done) | go_simp
  have S0 : (((w.alloc (.cells #[.int .i64 x0, .int .i64 y0, .int .i64 x1, .int .i64 y1, .int .i64 s, .slice A zs.length c] 26)).alloc (.cells #[.int .i64 a0, .int .i64 b0, .int .i64 a1, .int .i64 b1] 23)).alloc (.cells #[.int .i64 e0, .int .i64 f0, .int .i64 e1, .int .i64 f1] 23)).cell? ⟨w.heap.size + 2, 0, none⟩ = some (.int .i64 e0) := by first | (simp; done) | go_simp
  have S1 : (((w.alloc (.cells #[.int .i64 x0, .int .i64 y0, .int .i64 x1, .int .i64 y1, .int .i64 s, .slice A zs.length c] 26)).alloc (.cells #[.int .i64 a0, .int .i64 b0, .int .i64 a1, .int .i64 b1] 23)).alloc (.cells #[.int .i64 e0, .int .i64 f0, .int .i64 e1, .int .i64 f1] 23)).cell? ⟨w.heap.size + 2, 1, none⟩ = some (.int .i64 f0) := by first | (simp; done) | go_simp
  have S2 : (((w.alloc (.cells #[.int .i64 x0, .int .i64 y0, .int .i64 x1, .int .i64 y1, .int .i64 s, .slice A zs.length c] 26)).alloc (.cells #[.int .i64 a0, .int .i64 b0, .int .i64 a1, .int .i64 b1] 23)).alloc (.cells #[.int .i64 e0, .int .i64 f0, .int .i64 e1, .int .i64 f1] 23)).cell? ⟨w.heap.size + 2, 2, none⟩ = some (.int .i64 e1) := by first | (simp; done) | go_simp
  have S3 : (((w.alloc (.cells #[.int .i64 x0, .int .i64 y0, .int .i64 x1, .int .i64 y1, .int .i64 s, .slice A zs.length c] 26)).alloc (.cells #[.int .i64 a0, .int .i64 b0, .int .i64 a1, .int .i64 b1] 23)).alloc (.cells #[.int .i64 e0, .int .i64 f0, .int .i64 e1, .int .i64 f1] 23)).cell? ⟨w.heap.size + 2, 3, none⟩ = some (.int .i64 f1) := by first | (simp; done) | go_simp
  have HR := Lib.hid (hr.out.below hB)
  go_enter Try.func12, Try.ntmps12
  go_wp2_with fail
  generalize ((w.alloc (.cells #[.int .i64 x0, .int .i64 y0, .int .i64 x1, .int .i64 y1, .int .i64 s, .slice A zs.length c] 26)).alloc (.cells #[.int .i64 a0, .int .i64 b0, .int .i64 a1, .int .i64 b1] 23)).alloc (.cells #[.int .i64 e0, .int .i64 f0, .int .i64 e1, .int .i64 f1] 23) = W0 at *
  refine (fitsK_any x0 y0 x1 y1 s A c zs true (by simp [hF.out]) _).mono ?_
  rintro e w1 ⟨rfl, hb1⟩
  replace D0 := cell_kept D0 hb1
  replace D1 := cell_kept D1 hb1
  replace D2 := cell_kept D2 hb1
  replace D3 := cell_kept D3 hb1
  replace D4 := cell_kept D4 hb1
  replace D5 := cell_kept D5 hb1
  replace R0 := cell_kept R0 hb1
  replace R1 := cell_kept R1 hb1
  replace R2 := cell_kept R2 hb1
  replace R3 := cell_kept R3 hb1
  replace S0 := cell_kept S0 hb1
  replace S1 := cell_kept S1 hb1
  replace S2 := cell_kept S2 hb1
  replace S3 := cell_kept S3 hb1
  replace HR := Lib.hid (HR.out.below hb1)
  replace hB := hB.trans (hb1.mono hB.size)
  clear hb1
  go_wp2_with fail
  refine (box_any a0 b0 a1 b1 _).mono ?_
  rintro e w2 ⟨rfl, hb2⟩
  replace D0 := cell_kept D0 hb2
  replace D1 := cell_kept D1 hb2
  replace D2 := cell_kept D2 hb2
  replace D3 := cell_kept D3 hb2
  replace D4 := cell_kept D4 hb2
  replace D5 := cell_kept D5 hb2
  replace R0 := cell_kept R0 hb2
  replace R1 := cell_kept R1 hb2
  replace R2 := cell_kept R2 hb2
  replace R3 := cell_kept R3 hb2
  replace S0 := cell_kept S0 hb2
  replace S1 := cell_kept S1 hb2
  replace S2 := cell_kept S2 hb2
  replace S3 := cell_kept S3 hb2
  replace HR := Lib.hid (HR.out.below hb2)
  replace hB := hB.trans (hb2.mono hB.size)
  clear hb2
  go_wp2_with fail
  refine (near4_any a0 b0 a1 b1 true (by simp [hN.out]) _).mono ?_
  rintro e w3 ⟨rfl, hb3⟩
  replace D0 := cell_kept D0 hb3
  replace D1 := cell_kept D1 hb3
  replace D2 := cell_kept D2 hb3
  replace D3 := cell_kept D3 hb3
  replace D4 := cell_kept D4 hb3
  replace D5 := cell_kept D5 hb3
  replace R0 := cell_kept R0 hb3
  replace R1 := cell_kept R1 hb3
  replace R2 := cell_kept R2 hb3
  replace R3 := cell_kept R3 hb3
  replace S0 := cell_kept S0 hb3
  replace S1 := cell_kept S1 hb3
  replace S2 := cell_kept S2 hb3
  replace S3 := cell_kept S3 hb3
  replace HR := Lib.hid (HR.out.below hb3)
  replace hB := hB.trans (hb3.mono hB.size)
  clear hb3
  go_wp2_with fail
  refine (box_any e0 f0 e1 f1 _).mono ?_
  rintro e w4 ⟨rfl, hb4⟩
  replace D0 := cell_kept D0 hb4
  replace D1 := cell_kept D1 hb4
  replace D2 := cell_kept D2 hb4
  replace D3 := cell_kept D3 hb4
  replace D4 := cell_kept D4 hb4
  replace D5 := cell_kept D5 hb4
  replace R0 := cell_kept R0 hb4
  replace R1 := cell_kept R1 hb4
  replace R2 := cell_kept R2 hb4
  replace R3 := cell_kept R3 hb4
  replace S0 := cell_kept S0 hb4
  replace S1 := cell_kept S1 hb4
  replace S2 := cell_kept S2 hb4
  replace S3 := cell_kept S3 hb4
  replace HR := Lib.hid (HR.out.below hb4)
  replace hB := hB.trans (hb4.mono hB.size)
  clear hb4
  go_wp2_with fail
  refine (near4_any e0 f0 e1 f1 true (by simp [hM.out]) _).mono ?_
  rintro e w5 ⟨rfl, hb5⟩
  replace D0 := cell_kept D0 hb5
  replace D1 := cell_kept D1 hb5
  replace D2 := cell_kept D2 hb5
  replace D3 := cell_kept D3 hb5
  replace D4 := cell_kept D4 hb5
  replace D5 := cell_kept D5 hb5
  replace R0 := cell_kept R0 hb5
  replace R1 := cell_kept R1 hb5
  replace R2 := cell_kept R2 hb5
  replace R3 := cell_kept R3 hb5
  replace S0 := cell_kept S0 hb5
  replace S1 := cell_kept S1 hb5
  replace S2 := cell_kept S2 hb5
  replace S3 := cell_kept S3 hb5
  replace HR := Lib.hid (HR.out.below hb5)
  replace hB := hB.trans (hb5.mono hB.size)
  clear hb5
  go_wp2_with fail
  refine (implSub_any x0 y0 x1 y1 s A c zs a0 b0 a1 b1 _ HR hl hn hF).mono ?_
  rintro e w6 ⟨X0, Y0, X1, Y1, T1, A1, cp1, z1, HSM, rfl, hown, hb6⟩
  have HRM := Lib.hid (Reads.of_own hown)
  have HNM := Lib.hid (own_nil hown)
  replace HSM := Lib.hid HSM
  have HFM := Lib.hid (HSM.out.fits hF.out)
  have hlz1 := HSM.out.small hl
  clear hown
  replace D0 := cell_kept D0 hb6
  replace D1 := cell_kept D1 hb6
  replace D2 := cell_kept D2 hb6
  replace D3 := cell_kept D3 hb6
  replace D4 := cell_kept D4 hb6
  replace D5 := cell_kept D5 hb6
  replace R0 := cell_kept R0 hb6
  replace R1 := cell_kept R1 hb6
  replace R2 := cell_kept R2 hb6
  replace R3 := cell_kept R3 hb6
  replace S0 := cell_kept S0 hb6
  replace S1 := cell_kept S1 hb6
  replace S2 := cell_kept S2 hb6
  replace S3 := cell_kept S3 hb6
  replace HR := Lib.hid (HR.out.below hb6)
  replace hB := hB.trans (hb6.mono hB.size)
  clear hb6
  have aw : Below w6.heap.size w6 (w6.alloc (.cells #[.int .i64 X0, .int .i64 Y0, .int .i64 X1, .int .i64 Y1, .int .i64 T1, .slice A1 z1.length cp1] 26)) := (Below.refl _ _).alloc (Nat.le_refl _) _
  replace D0 := cell_kept D0 aw
  replace D1 := cell_kept D1 aw
  replace D2 := cell_kept D2 aw
  replace D3 := cell_kept D3 aw
  replace D4 := cell_kept D4 aw
  replace D5 := cell_kept D5 aw
  replace R0 := cell_kept R0 aw
  replace R1 := cell_kept R1 aw
  replace R2 := cell_kept R2 aw
  replace R3 := cell_kept R3 aw
  replace S0 := cell_kept S0 aw
  replace S1 := cell_kept S1 aw
  replace S2 := cell_kept S2 aw
  replace S3 := cell_kept S3 aw
  replace HR := Lib.hid (HR.out.below aw)
  replace HRM := Lib.hid (HRM.out.below aw)
  replace hB := hB.trans (aw.mono hB.size)
  have M0 : (w6.alloc (.cells #[.int .i64 X0, .int .i64 Y0, .int .i64 X1, .int .i64 Y1, .int .i64 T1, .slice A1 z1.length cp1] 26)).cell? ⟨w6.heap.size, 0, none⟩ = some (.int .i64 X0) := by simp
  have M1 : (w6.alloc (.cells #[.int .i64 X0, .int .i64 Y0, .int .i64 X1, .int .i64 Y1, .int .i64 T1, .slice A1 z1.length cp1] 26)).cell? ⟨w6.heap.size, 1, none⟩ = some (.int .i64 Y0) := by simp
  have M2 : (w6.alloc (.cells #[.int .i64 X0, .int .i64 Y0, .int .i64 X1, .int .i64 Y1, .int .i64 T1, .slice A1 z1.length cp1] 26)).cell? ⟨w6.heap.size, 2, none⟩ = some (.int .i64 X1) := by simp
  have M3 : (w6.alloc (.cells #[.int .i64 X0, .int .i64 Y0, .int .i64 X1, .int .i64 Y1, .int .i64 T1, .slice A1 z1.length cp1] 26)).cell? ⟨w6.heap.size, 3, none⟩ = some (.int .i64 Y1) := by simp
  have M4 : (w6.alloc (.cells #[.int .i64 X0, .int .i64 Y0, .int .i64 X1, .int .i64 Y1, .int .i64 T1, .slice A1 z1.length cp1] 26)).cell? ⟨w6.heap.size, 4, none⟩ = some (.int .i64 T1) := by simp
  have M5 : (w6.alloc (.cells #[.int .i64 X0, .int .i64 Y0, .int .i64 X1, .int .i64 Y1, .int .i64 T1, .slice A1 z1.length cp1] 26)).cell? ⟨w6.heap.size, 5, none⟩ = some (.slice A1 z1.length cp1) := by simp
  have hltWA : w6.heap.size < (w6.alloc (.cells #[.int .i64 X0, .int .i64 Y0, .int .i64 X1, .int .i64 Y1, .int .i64 T1, .slice A1 z1.length cp1] 26)).heap.size := by simp
  clear aw
  go_wp2_with fail
  generalize w6.alloc (.cells #[.int .i64 X0, .int .i64 Y0, .int .i64 X1, .int .i64 Y1, .int .i64 T1, .slice A1 z1.length cp1] 26) = WA at *
  generalize w6.heap.size = ba at *
  go_wp2_with fail
  refine (implSub_any X0 Y0 X1 Y1 T1 A1 cp1 z1 e0 f0 e1 f1 _ HRM hlz1 HNM HFM).mono ?_
  rintro e w7 ⟨U0, V0, U1, V1, T2, A2, cp2, z2, HSN, rfl, hown, hb7⟩
  have HRN := Lib.hid (Reads.of_own hown)
  have HNN := Lib.hid (own_nil hown)
  replace HSN := Lib.hid HSN
  have HFN := Lib.hid (HSN.out.fits HFM.out)
  have hlz2 := HSN.out.small hlz1
  clear hown
  replace D0 := cell_kept D0 hb7
  replace D1 := cell_kept D1 hb7
  replace D2 := cell_kept D2 hb7
  replace D3 := cell_kept D3 hb7
  replace D4 := cell_kept D4 hb7
  replace D5 := cell_kept D5 hb7
  replace R0 := cell_kept R0 hb7
  replace R1 := cell_kept R1 hb7
  replace R2 := cell_kept R2 hb7
  replace R3 := cell_kept R3 hb7
  replace S0 := cell_kept S0 hb7
  replace S1 := cell_kept S1 hb7
  replace S2 := cell_kept S2 hb7
  replace S3 := cell_kept S3 hb7
  replace M0 := cell_kept M0 hb7
  replace M1 := cell_kept M1 hb7
  replace M2 := cell_kept M2 hb7
  replace M3 := cell_kept M3 hb7
  replace M4 := cell_kept M4 hb7
  replace M5 := cell_kept M5 hb7
  replace HR := Lib.hid (HR.out.below hb7)
  replace HRM := Lib.hid (HRM.out.below hb7)
  replace hB := hB.trans (hb7.mono hB.size)
  clear hb7
  have aw : Below w7.heap.size w7 (w7.alloc (.cells #[.int .i64 U0, .int .i64 V0, .int .i64 U1, .int .i64 V1, .int .i64 T2, .slice A2 z2.length cp2] 26)) := (Below.refl _ _).alloc (Nat.le_refl _) _
  replace D0 := cell_kept D0 aw
  replace D1 := cell_kept D1 aw
  replace D2 := cell_kept D2 aw
  replace D3 := cell_kept D3 aw
  replace D4 := cell_kept D4 aw
  replace D5 := cell_kept D5 aw
  replace R0 := cell_kept R0 aw
  replace R1 := cell_kept R1 aw
  replace R2 := cell_kept R2 aw
  replace R3 := cell_kept R3 aw
  replace S0 := cell_kept S0 aw
  replace S1 := cell_kept S1 aw
  replace S2 := cell_kept S2 aw
  replace S3 := cell_kept S3 aw
  replace M0 := cell_kept M0 aw
  replace M1 := cell_kept M1 aw
  replace M2 := cell_kept M2 aw
  replace M3 := cell_kept M3 aw
  replace M4 := cell_kept M4 aw
  replace M5 := cell_kept M5 aw
  replace HR := Lib.hid (HR.out.below aw)
  replace HRM := Lib.hid (HRM.out.below aw)
  replace HRN := Lib.hid (HRN.out.below aw)
  replace hB := hB.trans (aw.mono hB.size)
  have N0 : (w7.alloc (.cells #[.int .i64 U0, .int .i64 V0, .int .i64 U1, .int .i64 V1, .int .i64 T2, .slice A2 z2.length cp2] 26)).cell? ⟨w7.heap.size, 0, none⟩ = some (.int .i64 U0) := by simp
  have N1 : (w7.alloc (.cells #[.int .i64 U0, .int .i64 V0, .int .i64 U1, .int .i64 V1, .int .i64 T2, .slice A2 z2.length cp2] 26)).cell? ⟨w7.heap.size, 1, none⟩ = some (.int .i64 V0) := by simp
  have N2 : (w7.alloc (.cells #[.int .i64 U0, .int .i64 V0, .int .i64 U1, .int .i64 V1, .int .i64 T2, .slice A2 z2.length cp2] 26)).cell? ⟨w7.heap.size, 2, none⟩ = some (.int .i64 U1) := by simp
  have N3 : (w7.alloc (.cells #[.int .i64 U0, .int .i64 V0, .int .i64 U1, .int .i64 V1, .int .i64 T2, .slice A2 z2.length cp2] 26)).cell? ⟨w7.heap.size, 3, none⟩ = some (.int .i64 V1) := by simp
  have N4 : (w7.alloc (.cells #[.int .i64 U0, .int .i64 V0, .int .i64 U1, .int .i64 V1, .int .i64 T2, .slice A2 z2.length cp2] 26)).cell? ⟨w7.heap.size, 4, none⟩ = some (.int .i64 T2) := by simp
  have N5 : (w7.alloc (.cells #[.int .i64 U0, .int .i64 V0, .int .i64 U1, .int .i64 V1, .int .i64 T2, .slice A2 z2.length cp2] 26)).cell? ⟨w7.heap.size, 5, none⟩ = some (.slice A2 z2.length cp2) := by simp
  have hltWB : w7.heap.size < (w7.alloc (.cells #[.int .i64 U0, .int .i64 V0, .int .i64 U1, .int .i64 V1, .int .i64 T2, .slice A2 z2.length cp2] 26)).heap.size := by simp
  clear aw
  go_wp2_with fail
  generalize w7.alloc (.cells #[.int .i64 U0, .int .i64 V0, .int .i64 U1, .int .i64 V1, .int .i64 T2, .slice A2 z2.length cp2] 26) = WB at *
  generalize w7.heap.size = bb at *
  clear M0 M1 M2 M3 M4 M5
  have tok1 : True := trivial
  go_upto_region 5 with fail
  have P0 : Below WB.heap.size WB WB.drew := (Below.refl _ _).drew
  have P0a : Below WB.heap.size WB (WB.alloc (.cells #[.int .i64 0, .int .i64 0, .int .i64 0, .int .i64 0] 32)).drew := ((Below.refl _ _).alloc (Nat.le_refl _) _).drew
  have toS : ∀ W' : World, Below WB.heap.size WB W' → (W'.cell? ⟨w.heap.size + 1, 0, none⟩ = some (.int .i64 a0) ∧ W'.cell? ⟨w.heap.size + 1, 1, none⟩ = some (.int .i64 b0) ∧ W'.cell? ⟨w.heap.size + 1, 2, none⟩ = some (.int .i64 a1) ∧ W'.cell? ⟨w.heap.size + 1, 3, none⟩ = some (.int .i64 b1) ∧ W'.cell? ⟨w.heap.size + 2, 0, none⟩ = some (.int .i64 e0) ∧ W'.cell? ⟨w.heap.size + 2, 1, none⟩ = some (.int .i64 f0) ∧ W'.cell? ⟨w.heap.size + 2, 2, none⟩ = some (.int .i64 e1) ∧ W'.cell? ⟨w.heap.size + 2, 3, none⟩ = some (.int .i64 f1)) := fun W' h => ⟨cell_kept R0 h, cell_kept R1 h, cell_kept R2 h, cell_kept R3 h, cell_kept S0 h, cell_kept S1 h, cell_kept S2 h, cell_kept S3 h⟩
  have TOS := Lib.hid toS
  clear toS
  go_cut [15, 16] (fun pp qq wx => ∃ bc : Nat, pp = .pointer (some ⟨bc, 0, none⟩) ∧ qq = .bool true ∧ WB.heap.size ≤ bc ∧ bc < wx.heap.size ∧ Below WB.heap.size WB wx ∧ wx.cell? ⟨bc, 0, none⟩ = some (.int .i64 c0) ∧ wx.cell? ⟨bc, 1, none⟩ = some (.int .i64 d0) ∧ wx.cell? ⟨bc, 2, none⟩ = some (.int .i64 c1) ∧ wx.cell? ⟨bc, 3, none⟩ = some (.int .i64 d1))
  case first =>
    go_region_held3 (fun w' => w'.cell? ⟨w.heap.size + 1, 0, none⟩ = some (.int .i64 a0) ∧ w'.cell? ⟨w.heap.size + 1, 1, none⟩ = some (.int .i64 b0) ∧ w'.cell? ⟨w.heap.size + 1, 2, none⟩ = some (.int .i64 a1) ∧ w'.cell? ⟨w.heap.size + 1, 3, none⟩ = some (.int .i64 b1) ∧ w'.cell? ⟨w.heap.size + 2, 0, none⟩ = some (.int .i64 e0) ∧ w'.cell? ⟨w.heap.size + 2, 1, none⟩ = some (.int .i64 f0) ∧ w'.cell? ⟨w.heap.size + 2, 2, none⟩ = some (.int .i64 e1) ∧ w'.cell? ⟨w.heap.size + 2, 3, none⟩ = some (.int .i64 f1))
      ((refine TOS.out _ ?_; first | with_reducible exact P0 | with_reducible exact P0a | with_reducible exact P1 | with_reducible exact P1.alloc P1.size _ | with_reducible exact P2 | with_reducible exact P2.alloc P2.size _ | with_reducible exact P3 | with_reducible exact P3.alloc P3.size _ | with_reducible exact ((((P3.setCell (Nat.le_refl _) _).setCell (Nat.le_refl _) _).setCell (Nat.le_refl _) _).setCell (Nat.le_refl _) _) | with_reducible exact ((((P3.setCell P1.size _).setCell P1.size _).setCell P1.size _).setCell P1.size _) | with_reducible exact ((((P3.setCell P2.size _).setCell P2.size _).setCell P2.size _).setCell P2.size _)))
      (first | (go_at_call 21; have _t := tok1; refine (box_any a0 b0 a1 b1 _).mono ?_; rintro e u1 ⟨rfl, hv1⟩; clear tok1; (first | (have P1 : Below WB.heap.size WB u1 := P0.trans (hv1.mono P0.size); skip) | (have P1 : Below WB.heap.size WB u1 := P0a.trans (hv1.mono P0a.size); have zc0 : u1.cell? ⟨WB.heap.size, 0, none⟩ = some (.int .i64 0) := ((bcell hv1).1 _ 0 (by simp)).trans (by simp); have zf0 : u1.frozen? ⟨WB.heap.size, 0, none⟩ = false := ((bcell hv1).2 _ 0 (by simp)).trans (by simp); have zc1 : u1.cell? ⟨WB.heap.size, 1, none⟩ = some (.int .i64 0) := ((bcell hv1).1 _ 1 (by simp)).trans (by simp); have zf1 : u1.frozen? ⟨WB.heap.size, 1, none⟩ = false := ((bcell hv1).2 _ 1 (by simp)).trans (by simp); have zc2 : u1.cell? ⟨WB.heap.size, 2, none⟩ = some (.int .i64 0) := ((bcell hv1).1 _ 2 (by simp)).trans (by simp); have zf2 : u1.frozen? ⟨WB.heap.size, 2, none⟩ = false := ((bcell hv1).2 _ 2 (by simp)).trans (by simp); have zc3 : u1.cell? ⟨WB.heap.size, 3, none⟩ = some (.int .i64 0) := ((bcell hv1).1 _ 3 (by simp)).trans (by simp); have zf3 : u1.frozen? ⟨WB.heap.size, 3, none⟩ = false := ((bcell hv1).2 _ 3 (by simp)).trans (by simp)))) | (go_at_call 21; refine (box_any e0 f0 e1 f1 _).mono ?_; rintro e u2 ⟨rfl, hv2⟩; (first | (have P2 : Below WB.heap.size WB u2 := P1.trans (hv2.mono P1.size); (try (replace zf0 := frozenK zc0 zf0 hv2; replace zc0 := cell_kept zc0 hv2; replace zf1 := frozenK zc1 zf1 hv2; replace zc1 := cell_kept zc1 hv2; replace zf2 := frozenK zc2 zf2 hv2; replace zc2 := cell_kept zc2 hv2; replace zf3 := frozenK zc3 zf3 hv2; replace zc3 := cell_kept zc3 hv2))) | (have P2 : Below WB.heap.size WB u2 := (P1.alloc P1.size (.cells #[.int .i64 0, .int .i64 0, .int .i64 0, .int .i64 0] 32)).trans (hv2.mono (P1.alloc P1.size (.cells #[.int .i64 0, .int .i64 0, .int .i64 0, .int .i64 0] 32)).size); have zc0 : u2.cell? ⟨u1.heap.size, 0, none⟩ = some (.int .i64 0) := ((bcell hv2).1 _ 0 (by simp)).trans (by simp); have zf0 : u2.frozen? ⟨u1.heap.size, 0, none⟩ = false := ((bcell hv2).2 _ 0 (by simp)).trans (by simp); have zc1 : u2.cell? ⟨u1.heap.size, 1, none⟩ = some (.int .i64 0) := ((bcell hv2).1 _ 1 (by simp)).trans (by simp); have zf1 : u2.frozen? ⟨u1.heap.size, 1, none⟩ = false := ((bcell hv2).2 _ 1 (by simp)).trans (by simp); have zc2 : u2.cell? ⟨u1.heap.size, 2, none⟩ = some (.int .i64 0) := ((bcell hv2).1 _ 2 (by simp)).trans (by simp); have zf2 : u2.frozen? ⟨u1.heap.size, 2, none⟩ = false := ((bcell hv2).2 _ 2 (by simp)).trans (by simp); have zc3 : u2.cell? ⟨u1.heap.size, 3, none⟩ = some (.int .i64 0) := ((bcell hv2).1 _ 3 (by simp)).trans (by simp); have zf3 : u2.frozen? ⟨u1.heap.size, 3, none⟩ = false := ((bcell hv2).2 _ 3 (by simp)).trans (by simp)))) | (go_at_call 35; refine (common_some a0 b0 a1 b1 e0 f0 e1 f1 _ n1 n2 n3 n4 n5.out n6.out).mono ?_; rw [m1.out, m2.out, m3.out, m4.out]; rintro e u3 ⟨rfl, hv3⟩; (first | (have P3 : Below WB.heap.size WB u3 := P2.trans (hv3.mono P2.size); (try (replace zf0 := frozenK zc0 zf0 hv3; replace zc0 := cell_kept zc0 hv3; replace zf1 := frozenK zc1 zf1 hv3; replace zc1 := cell_kept zc1 hv3; replace zf2 := frozenK zc2 zf2 hv3; replace zc2 := cell_kept zc2 hv3; replace zf3 := frozenK zc3 zf3 hv3; replace zc3 := cell_kept zc3 hv3))) | (have P3 : Below WB.heap.size WB u3 := (P2.alloc P2.size (.cells #[.int .i64 0, .int .i64 0, .int .i64 0, .int .i64 0] 32)).trans (hv3.mono (P2.alloc P2.size (.cells #[.int .i64 0, .int .i64 0, .int .i64 0, .int .i64 0] 32)).size); have zc0 : u3.cell? ⟨u2.heap.size, 0, none⟩ = some (.int .i64 0) := ((bcell hv3).1 _ 0 (by simp)).trans (by simp); have zf0 : u3.frozen? ⟨u2.heap.size, 0, none⟩ = false := ((bcell hv3).2 _ 0 (by simp)).trans (by simp); have zc1 : u3.cell? ⟨u2.heap.size, 1, none⟩ = some (.int .i64 0) := ((bcell hv3).1 _ 1 (by simp)).trans (by simp); have zf1 : u3.frozen? ⟨u2.heap.size, 1, none⟩ = false := ((bcell hv3).2 _ 1 (by simp)).trans (by simp); have zc2 : u3.cell? ⟨u2.heap.size, 2, none⟩ = some (.int .i64 0) := ((bcell hv3).1 _ 2 (by simp)).trans (by simp); have zf2 : u3.frozen? ⟨u2.heap.size, 2, none⟩ = false := ((bcell hv3).2 _ 2 (by simp)).trans (by simp); have zc3 : u3.cell? ⟨u2.heap.size, 3, none⟩ = some (.int .i64 0) := ((bcell hv3).1 _ 3 (by simp)).trans (by simp); have zf3 : u3.frozen? ⟨u2.heap.size, 3, none⟩ = false := ((bcell hv3).2 _ 3 (by simp)).trans (by simp)))))
    all_goals
      go_wp2_with fail
      go_meet
      have z1 := P1.size
      have z2 := P2.size
      have z3 := P3.size
      have y2 := hv2.size
      have y3 := hv3.size
      first
        | exact ⟨u3.heap.size, rfl, rfl, P3.size, by simp, P3.alloc P3.size _, by simp, by simp, by simp, by simp⟩
        | exact ⟨WB.heap.size, rfl, rfl, Nat.le_refl _, lt_sets (World.block_lt_of_cell? _ _ zc0) (by simp [World.setCell]), ((((P3.setCell (Nat.le_refl _) _).setCell (Nat.le_refl _) _).setCell (Nat.le_refl _) _).setCell (Nat.le_refl _) _), by go_simp, by go_simp, by go_simp, by go_simp⟩
        | exact ⟨u1.heap.size, rfl, rfl, P1.size, lt_sets (World.block_lt_of_cell? _ _ zc0) (by simp [World.setCell]), ((((P3.setCell P1.size _).setCell P1.size _).setCell P1.size _).setCell P1.size _), by go_simp, by go_simp, by go_simp, by go_simp⟩
        | exact ⟨u2.heap.size, rfl, rfl, P2.size, lt_sets (World.block_lt_of_cell? _ _ zc0) (by simp [World.setCell]), ((((P3.setCell P2.size _).setCell P2.size _).setCell P2.size _).setCell P2.size _), by go_simp, by go_simp, by go_simp, by go_simp⟩
  case rest =>
    clear TOS P0 P0a
    obtain ⟨bc, rfl, rfl, hbc, hbl, hBm, cc0, cc1, cc2, cc3⟩ := hcut
    replace D0 := cell_kept D0 hBm
    replace D1 := cell_kept D1 hBm
    replace D2 := cell_kept D2 hBm
    replace D3 := cell_kept D3 hBm
    replace D4 := cell_kept D4 hBm
    replace D5 := cell_kept D5 hBm
    replace R0 := cell_kept R0 hBm
    replace R1 := cell_kept R1 hBm
    replace R2 := cell_kept R2 hBm
    replace R3 := cell_kept R3 hBm
    replace S0 := cell_kept S0 hBm
    replace S1 := cell_kept S1 hBm
    replace S2 := cell_kept S2 hBm
    replace S3 := cell_kept S3 hBm
    replace N0 := cell_kept N0 hBm
    replace N1 := cell_kept N1 hBm
    replace N2 := cell_kept N2 hBm
    replace N3 := cell_kept N3 hBm
    replace N4 := cell_kept N4 hBm
    replace N5 := cell_kept N5 hBm
    replace HR := Lib.hid (HR.out.below hBm)
    replace HRM := Lib.hid (HRM.out.below hBm)
    replace HRN := Lib.hid (HRN.out.below hBm)
    replace hB := hB.trans (hBm.mono hB.size)
    clear hBm hbc
    go_wp2_with fail
    refine (implSub_any x0 y0 x1 y1 s A c zs c0 d0 c1 d1 _ HR hl hn hF).mono ?_
    rintro e w8 ⟨P0, Q0, P1, Q1, T3, A3, cp3, z3, HSE, rfl, hown, hb8⟩
    have HRE := Lib.hid (Reads.of_own hown)
    have HNE := Lib.hid (own_nil hown)
    replace HSE := Lib.hid HSE
    have HFE := Lib.hid (HSE.out.fits hF.out)
    have hlz3 := HSE.out.small hl
    clear hown
    replace D0 := cell_kept D0 hb8
    replace D1 := cell_kept D1 hb8
    replace D2 := cell_kept D2 hb8
    replace D3 := cell_kept D3 hb8
    replace D4 := cell_kept D4 hb8
    replace D5 := cell_kept D5 hb8
    replace R0 := cell_kept R0 hb8
    replace R1 := cell_kept R1 hb8
    replace R2 := cell_kept R2 hb8
    replace R3 := cell_kept R3 hb8
    replace S0 := cell_kept S0 hb8
    replace S1 := cell_kept S1 hb8
    replace S2 := cell_kept S2 hb8
    replace S3 := cell_kept S3 hb8
    replace N0 := cell_kept N0 hb8
    replace N1 := cell_kept N1 hb8
    replace N2 := cell_kept N2 hb8
    replace N3 := cell_kept N3 hb8
    replace N4 := cell_kept N4 hb8
    replace N5 := cell_kept N5 hb8
    replace cc0 := cell_kept cc0 hb8
    replace cc1 := cell_kept cc1 hb8
    replace cc2 := cell_kept cc2 hb8
    replace cc3 := cell_kept cc3 hb8
    replace HR := Lib.hid (HR.out.below hb8)
    replace HRM := Lib.hid (HRM.out.below hb8)
    replace HRN := Lib.hid (HRN.out.below hb8)
    replace hB := hB.trans (hb8.mono hB.size)
    clear hb8
    have aw : Below w8.heap.size w8 (w8.alloc (.cells #[.int .i64 P0, .int .i64 Q0, .int .i64 P1, .int .i64 Q1, .int .i64 T3, .slice A3 z3.length cp3] 26)) := (Below.refl _ _).alloc (Nat.le_refl _) _
    replace D0 := cell_kept D0 aw
    replace D1 := cell_kept D1 aw
    replace D2 := cell_kept D2 aw
    replace D3 := cell_kept D3 aw
    replace D4 := cell_kept D4 aw
    replace D5 := cell_kept D5 aw
    replace R0 := cell_kept R0 aw
    replace R1 := cell_kept R1 aw
    replace R2 := cell_kept R2 aw
    replace R3 := cell_kept R3 aw
    replace S0 := cell_kept S0 aw
    replace S1 := cell_kept S1 aw
    replace S2 := cell_kept S2 aw
    replace S3 := cell_kept S3 aw
    replace N0 := cell_kept N0 aw
    replace N1 := cell_kept N1 aw
    replace N2 := cell_kept N2 aw
    replace N3 := cell_kept N3 aw
    replace N4 := cell_kept N4 aw
    replace N5 := cell_kept N5 aw
    replace cc0 := cell_kept cc0 aw
    replace cc1 := cell_kept cc1 aw
    replace cc2 := cell_kept cc2 aw
    replace cc3 := cell_kept cc3 aw
    replace HR := Lib.hid (HR.out.below aw)
    replace HRM := Lib.hid (HRM.out.below aw)
    replace HRN := Lib.hid (HRN.out.below aw)
    replace HRE := Lib.hid (HRE.out.below aw)
    replace hB := hB.trans (aw.mono hB.size)
    have E0 : (w8.alloc (.cells #[.int .i64 P0, .int .i64 Q0, .int .i64 P1, .int .i64 Q1, .int .i64 T3, .slice A3 z3.length cp3] 26)).cell? ⟨w8.heap.size, 0, none⟩ = some (.int .i64 P0) := by simp
    have E1 : (w8.alloc (.cells #[.int .i64 P0, .int .i64 Q0, .int .i64 P1, .int .i64 Q1, .int .i64 T3, .slice A3 z3.length cp3] 26)).cell? ⟨w8.heap.size, 1, none⟩ = some (.int .i64 Q0) := by simp
    have E2 : (w8.alloc (.cells #[.int .i64 P0, .int .i64 Q0, .int .i64 P1, .int .i64 Q1, .int .i64 T3, .slice A3 z3.length cp3] 26)).cell? ⟨w8.heap.size, 2, none⟩ = some (.int .i64 P1) := by simp
    have E3 : (w8.alloc (.cells #[.int .i64 P0, .int .i64 Q0, .int .i64 P1, .int .i64 Q1, .int .i64 T3, .slice A3 z3.length cp3] 26)).cell? ⟨w8.heap.size, 3, none⟩ = some (.int .i64 Q1) := by simp
    have E4 : (w8.alloc (.cells #[.int .i64 P0, .int .i64 Q0, .int .i64 P1, .int .i64 Q1, .int .i64 T3, .slice A3 z3.length cp3] 26)).cell? ⟨w8.heap.size, 4, none⟩ = some (.int .i64 T3) := by simp
    have E5 : (w8.alloc (.cells #[.int .i64 P0, .int .i64 Q0, .int .i64 P1, .int .i64 Q1, .int .i64 T3, .slice A3 z3.length cp3] 26)).cell? ⟨w8.heap.size, 5, none⟩ = some (.slice A3 z3.length cp3) := by simp
    have hltWE : w8.heap.size < (w8.alloc (.cells #[.int .i64 P0, .int .i64 Q0, .int .i64 P1, .int .i64 Q1, .int .i64 T3, .slice A3 z3.length cp3] 26)).heap.size := by simp
    clear aw
    go_wp2_with fail
    generalize w8.alloc (.cells #[.int .i64 P0, .int .i64 Q0, .int .i64 P1, .int .i64 Q1, .int .i64 T3, .slice A3 z3.length cp3] 26) = WE at *
    generalize w8.heap.size = be at *
    clear D0 D1 D2 D3 D4 D5 R0 R1 R2 R3 S0 S1 S2 S3 cc0 cc1 cc2 cc3
    have HX := subsub_some HSM.out HSN.out (by rw [m1.out, m2.out, m3.out, m4.out]; exact HSE.out)
    rcases HX with HX | HX
    · have HU := Lib.hid HX.1
      have HP := Lib.hid HX.2
      clear HX
      refine (box_any U0 V0 U1 V1 _).mono ?_
      rintro e w9 ⟨rfl, hb9⟩
      replace N0 := cell_kept N0 hb9
      replace N1 := cell_kept N1 hb9
      replace N2 := cell_kept N2 hb9
      replace N3 := cell_kept N3 hb9
      replace N4 := cell_kept N4 hb9
      replace N5 := cell_kept N5 hb9
      replace E0 := cell_kept E0 hb9
      replace E1 := cell_kept E1 hb9
      replace E2 := cell_kept E2 hb9
      replace E3 := cell_kept E3 hb9
      replace E4 := cell_kept E4 hb9
      replace E5 := cell_kept E5 hb9
      replace HR := Lib.hid (HR.out.below hb9)
      replace HRM := Lib.hid (HRM.out.below hb9)
      replace HRN := Lib.hid (HRN.out.below hb9)
      replace HRE := Lib.hid (HRE.out.below hb9)
      replace hB := hB.trans (hb9.mono hB.size)
      clear hb9
      go_wp2_with fail
      refine (empt_any U0 V0 U1 V1 true (by simp [HU.out]) _).mono ?_
      rintro e w10 ⟨rfl, hb10⟩
      replace N0 := cell_kept N0 hb10
      replace N1 := cell_kept N1 hb10
      replace N2 := cell_kept N2 hb10
      replace N3 := cell_kept N3 hb10
      replace N4 := cell_kept N4 hb10
      replace N5 := cell_kept N5 hb10
      replace E0 := cell_kept E0 hb10
      replace E1 := cell_kept E1 hb10
      replace E2 := cell_kept E2 hb10
      replace E3 := cell_kept E3 hb10
      replace E4 := cell_kept E4 hb10
      replace E5 := cell_kept E5 hb10
      replace HR := Lib.hid (HR.out.below hb10)
      replace HRM := Lib.hid (HRM.out.below hb10)
      replace HRN := Lib.hid (HRN.out.below hb10)
      replace HRE := Lib.hid (HRE.out.below hb10)
      replace hB := hB.trans (hb10.mono hB.size)
      clear hb10
      go_wp2_with fail
      refine (box_any U0 V0 U1 V1 _).mono ?_
      rintro e w11 ⟨rfl, hb11⟩
      replace N0 := cell_kept N0 hb11
      replace N1 := cell_kept N1 hb11
      replace N2 := cell_kept N2 hb11
      replace N3 := cell_kept N3 hb11
      replace N4 := cell_kept N4 hb11
      replace N5 := cell_kept N5 hb11
      replace E0 := cell_kept E0 hb11
      replace E1 := cell_kept E1 hb11
      replace E2 := cell_kept E2 hb11
      replace E3 := cell_kept E3 hb11
      replace E4 := cell_kept E4 hb11
      replace E5 := cell_kept E5 hb11
      replace HR := Lib.hid (HR.out.below hb11)
      replace HRM := Lib.hid (HRM.out.below hb11)
      replace HRN := Lib.hid (HRN.out.below hb11)
      replace HRE := Lib.hid (HRE.out.below hb11)
      replace hB := hB.trans (hb11.mono hB.size)
      clear hb11
      go_wp2_with fail
      refine (empt_any U0 V0 U1 V1 true (by simp [HU.out]) _).mono ?_
      rintro e w12 ⟨rfl, hb12⟩
      replace N0 := cell_kept N0 hb12
      replace N1 := cell_kept N1 hb12
      replace N2 := cell_kept N2 hb12
      replace N3 := cell_kept N3 hb12
      replace N4 := cell_kept N4 hb12
      replace N5 := cell_kept N5 hb12
      replace E0 := cell_kept E0 hb12
      replace E1 := cell_kept E1 hb12
      replace E2 := cell_kept E2 hb12
      replace E3 := cell_kept E3 hb12
      replace E4 := cell_kept E4 hb12
      replace E5 := cell_kept E5 hb12
      replace HR := Lib.hid (HR.out.below hb12)
      replace HRM := Lib.hid (HRM.out.below hb12)
      replace HRN := Lib.hid (HRN.out.below hb12)
      replace HRE := Lib.hid (HRE.out.below hb12)
      replace hB := hB.trans (hb12.mono hB.size)
      clear hb12
      go_wp2_with fail
      refine (box_any P0 Q0 P1 Q1 _).mono ?_
      rintro e w13 ⟨rfl, hb13⟩
      replace N0 := cell_kept N0 hb13
      replace N1 := cell_kept N1 hb13
      replace N2 := cell_kept N2 hb13
      replace N3 := cell_kept N3 hb13
      replace N4 := cell_kept N4 hb13
      replace N5 := cell_kept N5 hb13
      replace E0 := cell_kept E0 hb13
      replace E1 := cell_kept E1 hb13
      replace E2 := cell_kept E2 hb13
      replace E3 := cell_kept E3 hb13
      replace E4 := cell_kept E4 hb13
      replace E5 := cell_kept E5 hb13
      replace HR := Lib.hid (HR.out.below hb13)
      replace HRM := Lib.hid (HRM.out.below hb13)
      replace HRN := Lib.hid (HRN.out.below hb13)
      replace HRE := Lib.hid (HRE.out.below hb13)
      replace hB := hB.trans (hb13.mono hB.size)
      clear hb13
      go_wp2_with fail
      refine (empt_any P0 Q0 P1 Q1 true (by simp [HP.out]) _).mono ?_
      rintro e w14 ⟨rfl, hb14⟩
      replace N0 := cell_kept N0 hb14
      replace N1 := cell_kept N1 hb14
      replace N2 := cell_kept N2 hb14
      replace N3 := cell_kept N3 hb14
      replace N4 := cell_kept N4 hb14
      replace N5 := cell_kept N5 hb14
      replace E0 := cell_kept E0 hb14
      replace E1 := cell_kept E1 hb14
      replace E2 := cell_kept E2 hb14
      replace E3 := cell_kept E3 hb14
      replace E4 := cell_kept E4 hb14
      replace E5 := cell_kept E5 hb14
      replace HR := Lib.hid (HR.out.below hb14)
      replace HRM := Lib.hid (HRM.out.below hb14)
      replace HRN := Lib.hid (HRN.out.below hb14)
      replace HRE := Lib.hid (HRE.out.below hb14)
      replace hB := hB.trans (hb14.mono hB.size)
      clear hb14
      go_wp2
      go_ret
      exact ⟨by simp, hB⟩
    · obtain ⟨hu, hp, rfl, rfl, rfl, rfl, rfl, rfl⟩ := HX
      have HU := Lib.hid hu
      clear hu hp
      refine (box_any _ _ _ _ _).mono ?_
      rintro e w9 ⟨rfl, hb9⟩
      replace N0 := cell_kept N0 hb9
      replace N1 := cell_kept N1 hb9
      replace N2 := cell_kept N2 hb9
      replace N3 := cell_kept N3 hb9
      replace N4 := cell_kept N4 hb9
      replace N5 := cell_kept N5 hb9
      replace E0 := cell_kept E0 hb9
      replace E1 := cell_kept E1 hb9
      replace E2 := cell_kept E2 hb9
      replace E3 := cell_kept E3 hb9
      replace E4 := cell_kept E4 hb9
      replace E5 := cell_kept E5 hb9
      replace HR := Lib.hid (HR.out.below hb9)
      replace HRM := Lib.hid (HRM.out.below hb9)
      replace HRN := Lib.hid (HRN.out.below hb9)
      replace HRE := Lib.hid (HRE.out.below hb9)
      replace hB := hB.trans (hb9.mono hB.size)
      clear hb9
      go_wp2_with fail
      refine (empt_any _ _ _ _ false (by simp [HU.out]) _).mono ?_
      rintro e w10 ⟨rfl, hb10⟩
      replace N0 := cell_kept N0 hb10
      replace N1 := cell_kept N1 hb10
      replace N2 := cell_kept N2 hb10
      replace N3 := cell_kept N3 hb10
      replace N4 := cell_kept N4 hb10
      replace N5 := cell_kept N5 hb10
      replace E0 := cell_kept E0 hb10
      replace E1 := cell_kept E1 hb10
      replace E2 := cell_kept E2 hb10
      replace E3 := cell_kept E3 hb10
      replace E4 := cell_kept E4 hb10
      replace E5 := cell_kept E5 hb10
      replace HR := Lib.hid (HR.out.below hb10)
      replace HRM := Lib.hid (HRM.out.below hb10)
      replace HRN := Lib.hid (HRN.out.below hb10)
      replace HRE := Lib.hid (HRE.out.below hb10)
      replace hB := hB.trans (hb10.mono hB.size)
      clear hb10
      go_wp2_with fail
      refine (box_any _ _ _ _ _).mono ?_
      rintro e w11 ⟨rfl, hb11⟩
      replace N0 := cell_kept N0 hb11
      replace N1 := cell_kept N1 hb11
      replace N2 := cell_kept N2 hb11
      replace N3 := cell_kept N3 hb11
      replace N4 := cell_kept N4 hb11
      replace N5 := cell_kept N5 hb11
      replace E0 := cell_kept E0 hb11
      replace E1 := cell_kept E1 hb11
      replace E2 := cell_kept E2 hb11
      replace E3 := cell_kept E3 hb11
      replace E4 := cell_kept E4 hb11
      replace E5 := cell_kept E5 hb11
      replace HR := Lib.hid (HR.out.below hb11)
      replace HRM := Lib.hid (HRM.out.below hb11)
      replace HRN := Lib.hid (HRN.out.below hb11)
      replace HRE := Lib.hid (HRE.out.below hb11)
      replace hB := hB.trans (hb11.mono hB.size)
      clear hb11
      go_wp2_with fail
      refine (empt_any _ _ _ _ false (by simp [HU.out]) _).mono ?_
      rintro e w12 ⟨rfl, hb12⟩
      replace N0 := cell_kept N0 hb12
      replace N1 := cell_kept N1 hb12
      replace N2 := cell_kept N2 hb12
      replace N3 := cell_kept N3 hb12
      replace N4 := cell_kept N4 hb12
      replace N5 := cell_kept N5 hb12
      replace E0 := cell_kept E0 hb12
      replace E1 := cell_kept E1 hb12
      replace E2 := cell_kept E2 hb12
      replace E3 := cell_kept E3 hb12
      replace E4 := cell_kept E4 hb12
      replace E5 := cell_kept E5 hb12
      replace HR := Lib.hid (HR.out.below hb12)
      replace HRM := Lib.hid (HRM.out.below hb12)
      replace HRN := Lib.hid (HRN.out.below hb12)
      replace HRE := Lib.hid (HRE.out.below hb12)
      replace hB := hB.trans (hb12.mono hB.size)
      clear hb12
      by_cases hI' : Insd P0 Q0 P1 Q1 x y
      · have hI := Lib.hid hI'
        clear hI'
        obtain ⟨b1', b2, b3, b4⟩ := near_point HFN.out hI.out
        obtain ⟨p1, p2⟩ : -2305843009213693952 ≤ (y - Q0) * T3 ∧ (y - Q0) * T3 ≤ 2305843009213693952 := (by have := HFN.out.prods hI.out; omega)
        obtain ⟨k, hK, hk⟩ := HFN.out.place (z := 2) rfl hI.out
        have HK := Lib.hid hK
        have Hk : Hid (k + 1 < z3.length) := by unfold Hid; omega
        have HY := Lib.hid (HSN.out.bytes (HSM.out.bytes hy.out))
        clear hK hk
        have P0' : Below w12.heap.size w12 w12.drew := (Below.refl _ _).drew
        have toS : ∀ W' : World, Below w12.heap.size w12 W' → (W'.cell? ⟨bb, 0, none⟩ = some (.int .i64 P0) ∧ W'.cell? ⟨bb, 1, none⟩ = some (.int .i64 Q0) ∧ W'.cell? ⟨bb, 2, none⟩ = some (.int .i64 P1) ∧ W'.cell? ⟨bb, 3, none⟩ = some (.int .i64 Q1) ∧ W'.cell? ⟨bb, 4, none⟩ = some (.int .i64 T3) ∧ W'.cell? ⟨bb, 5, none⟩ = some (.slice A2 z3.length cp2) ∧ W'.cell? ⟨be, 0, none⟩ = some (.int .i64 P0) ∧ W'.cell? ⟨be, 1, none⟩ = some (.int .i64 Q0) ∧ W'.cell? ⟨be, 2, none⟩ = some (.int .i64 P1) ∧ W'.cell? ⟨be, 3, none⟩ = some (.int .i64 Q1) ∧ W'.cell? ⟨be, 4, none⟩ = some (.int .i64 T3) ∧ W'.cell? ⟨be, 5, none⟩ = some (.slice A3 z3.length cp3)) := fun W' h => ⟨cell_kept N0 h, cell_kept N1 h, cell_kept N2 h, cell_kept N3 h, cell_kept N4 h, cell_kept N5 h, cell_kept E0 h, cell_kept E1 h, cell_kept E2 h, cell_kept E3 h, cell_kept E4 h, cell_kept E5 h⟩
        have TOS := Lib.hid toS
        clear toS
        have tok2 : True := trivial
        go_wp2_with fail
        go_region_held3 (fun w' => w'.cell? ⟨bb, 0, none⟩ = some (.int .i64 P0) ∧ w'.cell? ⟨bb, 1, none⟩ = some (.int .i64 Q0) ∧ w'.cell? ⟨bb, 2, none⟩ = some (.int .i64 P1) ∧ w'.cell? ⟨bb, 3, none⟩ = some (.int .i64 Q1) ∧ w'.cell? ⟨bb, 4, none⟩ = some (.int .i64 T3) ∧ w'.cell? ⟨bb, 5, none⟩ = some (.slice A2 z3.length cp2) ∧ w'.cell? ⟨be, 0, none⟩ = some (.int .i64 P0) ∧ w'.cell? ⟨be, 1, none⟩ = some (.int .i64 Q0) ∧ w'.cell? ⟨be, 2, none⟩ = some (.int .i64 P1) ∧ w'.cell? ⟨be, 3, none⟩ = some (.int .i64 Q1) ∧ w'.cell? ⟨be, 4, none⟩ = some (.int .i64 T3) ∧ w'.cell? ⟨be, 5, none⟩ = some (.slice A3 z3.length cp3))
          ((refine TOS.out _ ?_; first | with_reducible exact P2' | with_reducible exact P1' | with_reducible exact P0'))
          (first | (go_at_call 24; have _t := tok2; refine (implAt_in _ _ _ _ _ x y A2 cp2 k _ _ (show Hid _ from HRN.out.below P0') HY hlz2 HNN hI HK b1' b2 b3 b4 p1 p2 Hk).mono ?_; rintro e v1 ⟨rfl, hq1⟩; clear tok2; have P1' : Below w12.heap.size w12 v1 := P0'.trans (hq1.mono P0'.size)) | (go_at_call 24; refine (implAt_in _ _ _ _ _ x y A3 cp3 k _ _ (show Hid _ from HRE.out.below P1') HY hlz2 HNE hI HK b1' b2 b3 b4 p1 p2 Hk).mono ?_; rintro e v2 ⟨rfl, hq2⟩; have P2' : Below w12.heap.size w12 v2 := P1'.trans (hq2.mono P1'.size)))
        go_wp2
        go_ret
        exact ⟨by simp, hB.trans (P2'.mono hB.size)⟩
      · have hI := Lib.hid hI'
        clear hI'
        have P0' : Below w12.heap.size w12 w12.drew := (Below.refl _ _).drew
        have toS : ∀ W' : World, Below w12.heap.size w12 W' → (W'.cell? ⟨bb, 0, none⟩ = some (.int .i64 P0) ∧ W'.cell? ⟨bb, 1, none⟩ = some (.int .i64 Q0) ∧ W'.cell? ⟨bb, 2, none⟩ = some (.int .i64 P1) ∧ W'.cell? ⟨bb, 3, none⟩ = some (.int .i64 Q1) ∧ W'.cell? ⟨bb, 4, none⟩ = some (.int .i64 T3) ∧ W'.cell? ⟨bb, 5, none⟩ = some (.slice A2 z3.length cp2) ∧ W'.cell? ⟨be, 0, none⟩ = some (.int .i64 P0) ∧ W'.cell? ⟨be, 1, none⟩ = some (.int .i64 Q0) ∧ W'.cell? ⟨be, 2, none⟩ = some (.int .i64 P1) ∧ W'.cell? ⟨be, 3, none⟩ = some (.int .i64 Q1) ∧ W'.cell? ⟨be, 4, none⟩ = some (.int .i64 T3) ∧ W'.cell? ⟨be, 5, none⟩ = some (.slice A3 z3.length cp3)) := fun W' h => ⟨cell_kept N0 h, cell_kept N1 h, cell_kept N2 h, cell_kept N3 h, cell_kept N4 h, cell_kept N5 h, cell_kept E0 h, cell_kept E1 h, cell_kept E2 h, cell_kept E3 h, cell_kept E4 h, cell_kept E5 h⟩
        have TOS := Lib.hid toS
        clear toS
        have tok2 : True := trivial
        go_wp2_with fail
        go_region_held3 (fun w' => w'.cell? ⟨bb, 0, none⟩ = some (.int .i64 P0) ∧ w'.cell? ⟨bb, 1, none⟩ = some (.int .i64 Q0) ∧ w'.cell? ⟨bb, 2, none⟩ = some (.int .i64 P1) ∧ w'.cell? ⟨bb, 3, none⟩ = some (.int .i64 Q1) ∧ w'.cell? ⟨bb, 4, none⟩ = some (.int .i64 T3) ∧ w'.cell? ⟨bb, 5, none⟩ = some (.slice A2 z3.length cp2) ∧ w'.cell? ⟨be, 0, none⟩ = some (.int .i64 P0) ∧ w'.cell? ⟨be, 1, none⟩ = some (.int .i64 Q0) ∧ w'.cell? ⟨be, 2, none⟩ = some (.int .i64 P1) ∧ w'.cell? ⟨be, 3, none⟩ = some (.int .i64 Q1) ∧ w'.cell? ⟨be, 4, none⟩ = some (.int .i64 T3) ∧ w'.cell? ⟨be, 5, none⟩ = some (.slice A3 z3.length cp3))
          ((refine TOS.out _ ?_; first | with_reducible exact P2' | with_reducible exact P1' | with_reducible exact P0'))
          (first | (go_at_call 24; have _t := tok2; refine (implAt_out _ _ _ _ _ x y A2 cp2 _ _ (show Hid _ from HRN.out.below P0') hlz2 HNN hI).mono ?_; rintro e v1 ⟨rfl, hq1⟩; clear tok2; have P1' : Below w12.heap.size w12 v1 := P0'.trans (hq1.mono P0'.size)) | (go_at_call 24; refine (implAt_out _ _ _ _ _ x y A3 cp3 _ _ (show Hid _ from HRE.out.below P1') hlz2 HNE hI).mono ?_; rintro e v2 ⟨rfl, hq2⟩; have P2' : Below w12.heap.size w12 v2 := P1'.trans (hq2.mono P1'.size)))
        go_wp2
        go_ret
        exact ⟨by simp, hB.trans (P2'.mono hB.size)⟩

theorem walk_subSub (x0 y0 x1 y1 s : Int) (A : Option Addr) (c : Nat) (zs : List Int) (a0 b0 a1 b1 e0 f0 e1 f1 x y : Int) (w : World) (hr : Hid (Reads w A zs)) (hy : Hid (Bytes zs)) (hl : Small zs) (hn : Hid (A = none → c = 0)) :
    Calls Try.prog 12 #[.agg #[.int .i64 x0, .int .i64 y0, .int .i64 x1, .int .i64 y1, .int .i64 s, .slice A zs.length c], .agg #[.int .i64 a0, .int .i64 b0, .int .i64 a1, .int .i64 b1], .agg #[.int .i64 e0, .int .i64 f0, .int .i64 e1, .int .i64 f1], .int .i64 x, .int .i64 y] w fun e w' => e = .returned (.bool true) ∧ Below w.heap.size w w' := by
  by_cases hF : Fits x0 y0 x1 y1 s 2 zs.length
  · by_cases hN : Near4 a0 b0 a1 b1
    · by_cases hM : Near4 e0 f0 e1 f1
      · by_cases hE : min a1 e1 ≤ max a0 e0 ∨ min b1 f1 ≤ max b0 f0
        · exact ss_none x0 y0 x1 y1 s A c zs a0 b0 a1 b1 e0 f0 e1 f1 x y w hr hy hl hn hF hN hM hE
        · exact ss_some x0 y0 x1 y1 s A c zs a0 b0 a1 b1 e0 f0 e1 f1 x y w hr hy hl hn hF hN hM _ _ _ _ rfl rfl rfl rfl (show Hid _ from (by unfold Hid; omega)) (show Hid _ from (by unfold Hid; omega)) (by omega) (by omega) (by omega) (by omega)
      · exact ss_far2 x0 y0 x1 y1 s A c zs a0 b0 a1 b1 e0 f0 e1 f1 x y w hr hy hl hn hF hN hM
    · exact ss_far1 x0 y0 x1 y1 s A c zs a0 b0 a1 b1 e0 f0 e1 f1 x y w hr hy hl hn hF hN
  · exact ss_unfit x0 y0 x1 y1 s A c zs a0 b0 a1 b1 e0 f0 e1 f1 x y w hr hy hl hn hF

end Go.Proofs.Ytmhmahdojcajpaa
