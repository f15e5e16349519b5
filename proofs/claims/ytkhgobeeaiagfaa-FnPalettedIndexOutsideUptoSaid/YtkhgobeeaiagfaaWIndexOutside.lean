/- The walk of the law FnPalettedIndexOutside. -/
import Derived.Test.YtkhgobeeaiagfaaIndex
namespace Go.Proofs.Ytkhgobeeaiagfaa
open Go.RowKit
set_option linter.unusedVariables false
set_option linter.unusedSimpArgs false

theorem reads_one {w : World} {a : Nat} {v : Int} (h : w.cell? ⟨a, 0, none⟩ = some (.int .u8 v)) : Reads w (some ⟨a, 0, none⟩) [v] := by
  refine ⟨fun e => (by cases e), fun ad e j hj => ?_⟩
  injection e with e
  subst e
  obtain rfl : j = 0 := by simpa using hj
  simpa [Addr.add] using h
theorem one_small {v : Int} : Small [v] := by unfold Small; simp
theorem preads_nil (w : World) : PReads w none [] := ⟨fun _ => rfl, fun _ e => (by cases e)⟩

set_option maxRecDepth 100000 in
set_option maxHeartbeats 2000000 in
theorem ixo_in (x0 y0 x1 y1 s : Int) (A : Option Addr) (c : Nat) (zs : List Int) (B : Option Addr) (k : Nat) (ps : List (Int × Int × Int × Int)) (x y : Int) (w : World) (hr : Hid (Reads w A zs)) (hl : Small zs) (hn : Hid (A = none → c = 0)) (pr : Hid (PReads w B ps)) (pl : (ps.length : Int) ≤ 2097152) (hI : Hid (Insd x0 y0 x1 y1 x y)) :
    Calls Try.prog 6 #[.agg #[.int .i64 x0, .int .i64 y0, .int .i64 x1, .int .i64 y1, .int .i64 s, .slice A zs.length c, .slice B ps.length k], .int .i64 x, .int .i64 y] w fun e w' => e = .returned (.bool true) ∧ Below w.heap.size w w' := by
  have hB : Below w.heap.size w (w.alloc (.cells #[.int .i64 x0, .int .i64 y0, .int .i64 x1, .int .i64 y1, .int .i64 s, .slice A zs.length c, .slice B ps.length k] 27)) := (Below.refl _ _).alloc (Nat.le_refl _) _
  have D0 : (w.alloc (.cells #[.int .i64 x0, .int .i64 y0, .int .i64 x1, .int .i64 y1, .int .i64 s, .slice A zs.length c, .slice B ps.length k] 27)).cell? ⟨w.heap.size, 0, none⟩ = some (.int .i64 x0) := by first | (simp; done) | go_simp
  have D1 : (w.alloc (.cells #[.int .i64 x0, .int .i64 y0, .int .i64 x1, .int .i64 y1, .int .i64 s, .slice A zs.length c, .slice B ps.length k] 27)).cell? ⟨w.heap.size, 1, none⟩ = some (.int .i64 y0) := by first | (simp; done) | go_simp
  have D2 : (w.alloc (.cells #[.int .i64 x0, .int .i64 y0, .int .i64 x1, .int .i64 y1, .int .i64 s, .slice A zs.length c, .slice B ps.length k] 27)).cell? ⟨w.heap.size, 2, none⟩ = some (.int .i64 x1) := by first | (simp; done) | go_simp
  have D3 : (w.alloc (.cells #[.int .i64 x0, .int .i64 y0, .int .i64 x1, .int .i64 y1, .int .i64 s, .slice A zs.length c, .slice B ps.length k] 27)).cell? ⟨w.heap.size, 3, none⟩ = some (.int .i64 y1) := by first | (simp; done) | go_simp
  have D4 : (w.alloc (.cells #[.int .i64 x0, .int .i64 y0, .int .i64 x1, .int .i64 y1, .int .i64 s, .slice A zs.length c, .slice B ps.length k] 27)).cell? ⟨w.heap.size, 4, none⟩ = some (.int .i64 s) := by first | (simp; done) | go_simp
  have D5 : (w.alloc (.cells #[.int .i64 x0, .int .i64 y0, .int .i64 x1, .int .i64 y1, .int .i64 s, .slice A zs.length c, .slice B ps.length k] 27)).cell? ⟨w.heap.size, 5, none⟩ = some (.slice A zs.length c) := by first | (simp; done) | go_simp
  have D6 : (w.alloc (.cells #[.int .i64 x0, .int .i64 y0, .int .i64 x1, .int .i64 y1, .int .i64 s, .slice A zs.length c, .slice B ps.length k] 27)).cell? ⟨w.heap.size, 6, none⟩ = some (.slice B ps.length k) := by first | (simp; done) | go_simp
  have HR := Lib.hid (hr.out.below hB)
  have HP := Lib.hid (pr.out.below hB)
  go_enter Try.func6, Try.ntmps6
  go_wp2_with fail
  generalize w.alloc (.cells #[.int .i64 x0, .int .i64 y0, .int .i64 x1, .int .i64 y1, .int .i64 s, .slice A zs.length c, .slice B ps.length k] 27) = W0 at *
  go_wp2_with fail
  refine (inside_any x0 y0 x1 y1 x y true (by simp [hI.out]) _).mono ?_
  rintro e w1 ⟨rfl, hb1⟩
  replace D0 := cell_kept D0 hb1
  replace D1 := cell_kept D1 hb1
  replace D2 := cell_kept D2 hb1
  replace D3 := cell_kept D3 hb1
  replace D4 := cell_kept D4 hb1
  replace D5 := cell_kept D5 hb1
  replace D6 := cell_kept D6 hb1
  replace HR := Lib.hid (HR.out.below hb1)
  replace HP := Lib.hid (HP.out.below hb1)
  replace hB := hB.trans (hb1.mono hB.size)
  clear hb1
  go_wp2
  go_ret
  exact ⟨by simp, hB⟩

set_option maxRecDepth 100000 in
set_option maxHeartbeats 2000000 in
theorem ixo_far (x0 y0 x1 y1 s : Int) (A : Option Addr) (c : Nat) (zs : List Int) (B : Option Addr) (k : Nat) (ps : List (Int × Int × Int × Int)) (x y : Int) (w : World) (hr : Hid (Reads w A zs)) (hl : Small zs) (hn : Hid (A = none → c = 0)) (pr : Hid (PReads w B ps)) (pl : (ps.length : Int) ≤ 2097152) (hI : Hid (¬ Insd x0 y0 x1 y1 x y)) (hN : Hid (¬ (Near x ∧ Near y))) :
    Calls Try.prog 6 #[.agg #[.int .i64 x0, .int .i64 y0, .int .i64 x1, .int .i64 y1, .int .i64 s, .slice A zs.length c, .slice B ps.length k], .int .i64 x, .int .i64 y] w fun e w' => e = .returned (.bool true) ∧ Below w.heap.size w w' := by
  have hB : Below w.heap.size w (w.alloc (.cells #[.int .i64 x0, .int .i64 y0, .int .i64 x1, .int .i64 y1, .int .i64 s, .slice A zs.length c, .slice B ps.length k] 27)) := (Below.refl _ _).alloc (Nat.le_refl _) _
  have D0 : (w.alloc (.cells #[.int .i64 x0, .int .i64 y0, .int .i64 x1, .int .i64 y1, .int .i64 s, .slice A zs.length c, .slice B ps.length k] 27)).cell? ⟨w.heap.size, 0, none⟩ = some (.int .i64 x0) := by first | (simp; done) | go_simp
  have D1 : (w.alloc (.cells #[.int .i64 x0, .int .i64 y0, .int .i64 x1, .int .i64 y1, .int .i64 s, .slice A zs.length c, .slice B ps.length k] 27)).cell? ⟨w.heap.size, 1, none⟩ = some (.int .i64 y0) := by first | (simp; done) | go_simp
  have D2 : (w.alloc (.cells #[.int .i64 x0, .int .i64 y0, .int .i64 x1, .int .i64 y1, .int .i64 s, .slice A zs.length c, .slice B ps.length k] 27)).cell? ⟨w.heap.size, 2, none⟩ = some (.int .i64 x1) := by first | (simp; done) | go_simp
  have D3 : (w.alloc (.cells #[.int .i64 x0, .int .i64 y0, .int .i64 x1, .int .i64 y1, .int .i64 s, .slice A zs.length c, .slice B ps.length k] 27)).cell? ⟨w.heap.size, 3, none⟩ = some (.int .i64 y1) := by first | (simp; done) | go_simp
  have D4 : (w.alloc (.cells #[.int .i64 x0, .int .i64 y0, .int .i64 x1, .int .i64 y1, .int .i64 s, .slice A zs.length c, .slice B ps.length k] 27)).cell? ⟨w.heap.size, 4, none⟩ = some (.int .i64 s) := by first | (simp; done) | go_simp
  have D5 : (w.alloc (.cells #[.int .i64 x0, .int .i64 y0, .int .i64 x1, .int .i64 y1, .int .i64 s, .slice A zs.length c, .slice B ps.length k] 27)).cell? ⟨w.heap.size, 5, none⟩ = some (.slice A zs.length c) := by first | (simp; done) | go_simp
  have D6 : (w.alloc (.cells #[.int .i64 x0, .int .i64 y0, .int .i64 x1, .int .i64 y1, .int .i64 s, .slice A zs.length c, .slice B ps.length k] 27)).cell? ⟨w.heap.size, 6, none⟩ = some (.slice B ps.length k) := by first | (simp; done) | go_simp
  have HR := Lib.hid (hr.out.below hB)
  have HP := Lib.hid (pr.out.below hB)
  go_enter Try.func6, Try.ntmps6
  go_wp2_with fail
  generalize w.alloc (.cells #[.int .i64 x0, .int .i64 y0, .int .i64 x1, .int .i64 y1, .int .i64 s, .slice A zs.length c, .slice B ps.length k] 27) = W0 at *
  go_wp2_with fail
  refine (inside_any x0 y0 x1 y1 x y false (by simp [hI.out]) _).mono ?_
  rintro e w1 ⟨rfl, hb1⟩
  replace D0 := cell_kept D0 hb1
  replace D1 := cell_kept D1 hb1
  replace D2 := cell_kept D2 hb1
  replace D3 := cell_kept D3 hb1
  replace D4 := cell_kept D4 hb1
  replace D5 := cell_kept D5 hb1
  replace D6 := cell_kept D6 hb1
  replace HR := Lib.hid (HR.out.below hb1)
  replace HP := Lib.hid (HP.out.below hb1)
  replace hB := hB.trans (hb1.mono hB.size)
  clear hb1
  go_wp2_with fail
  refine (nearPoint_any x y false (by have := hN.out; simp only [this]; simp) _).mono ?_
  rintro e w' ⟨rfl, rfl⟩
  go_wp2
  go_ret
  exact ⟨by simp, hB⟩

set_option maxRecDepth 100000 in
set_option maxHeartbeats 2000000 in
theorem ixo_out (x0 y0 x1 y1 s : Int) (A : Option Addr) (c : Nat) (zs : List Int) (B : Option Addr) (k : Nat) (ps : List (Int × Int × Int × Int)) (x y : Int) (w : World) (hr : Hid (Reads w A zs)) (hl : Small zs) (hn : Hid (A = none → c = 0)) (pr : Hid (PReads w B ps)) (pl : (ps.length : Int) ≤ 2097152) (hI : Hid (¬ Insd x0 y0 x1 y1 x y)) (hN : Hid (Near x ∧ Near y)) :
    Calls Try.prog 6 #[.agg #[.int .i64 x0, .int .i64 y0, .int .i64 x1, .int .i64 y1, .int .i64 s, .slice A zs.length c, .slice B ps.length k], .int .i64 x, .int .i64 y] w fun e w' => e = .returned (.bool true) ∧ Below w.heap.size w w' := by
  have hB : Below w.heap.size w (w.alloc (.cells #[.int .i64 x0, .int .i64 y0, .int .i64 x1, .int .i64 y1, .int .i64 s, .slice A zs.length c, .slice B ps.length k] 27)) := (Below.refl _ _).alloc (Nat.le_refl _) _
  have D0 : (w.alloc (.cells #[.int .i64 x0, .int .i64 y0, .int .i64 x1, .int .i64 y1, .int .i64 s, .slice A zs.length c, .slice B ps.length k] 27)).cell? ⟨w.heap.size, 0, none⟩ = some (.int .i64 x0) := by first | (simp; done) | go_simp
  have D1 : (w.alloc (.cells #[.int .i64 x0, .int .i64 y0, .int .i64 x1, .int .i64 y1, .int .i64 s, .slice A zs.length c, .slice B ps.length k] 27)).cell? ⟨w.heap.size, 1, none⟩ = some (.int .i64 y0) := by first | (simp; done) | go_simp
  have D2 : (w.alloc (.cells #[.int .i64 x0, .int .i64 y0, .int .i64 x1, .int .i64 y1, .int .i64 s, .slice A zs.length c, .slice B ps.length k] 27)).cell? ⟨w.heap.size, 2, none⟩ = some (.int .i64 x1) := by first | (simp; done) | go_simp
  have D3 : (w.alloc (.cells #[.int .i64 x0, .int .i64 y0, .int .i64 x1, .int .i64 y1, .int .i64 s, .slice A zs.length c, .slice B ps.length k] 27)).cell? ⟨w.heap.size, 3, none⟩ = some (.int .i64 y1) := by first | (simp; done) | go_simp
  have D4 : (w.alloc (.cells #[.int .i64 x0, .int .i64 y0, .int .i64 x1, .int .i64 y1, .int .i64 s, .slice A zs.length c, .slice B ps.length k] 27)).cell? ⟨w.heap.size, 4, none⟩ = some (.int .i64 s) := by first | (simp; done) | go_simp
  have D5 : (w.alloc (.cells #[.int .i64 x0, .int .i64 y0, .int .i64 x1, .int .i64 y1, .int .i64 s, .slice A zs.length c, .slice B ps.length k] 27)).cell? ⟨w.heap.size, 5, none⟩ = some (.slice A zs.length c) := by first | (simp; done) | go_simp
  have D6 : (w.alloc (.cells #[.int .i64 x0, .int .i64 y0, .int .i64 x1, .int .i64 y1, .int .i64 s, .slice A zs.length c, .slice B ps.length k] 27)).cell? ⟨w.heap.size, 6, none⟩ = some (.slice B ps.length k) := by first | (simp; done) | go_simp
  have HR := Lib.hid (hr.out.below hB)
  have HP := Lib.hid (pr.out.below hB)
  go_enter Try.func6, Try.ntmps6
  go_wp2_with fail
  generalize w.alloc (.cells #[.int .i64 x0, .int .i64 y0, .int .i64 x1, .int .i64 y1, .int .i64 s, .slice A zs.length c, .slice B ps.length k] 27) = W0 at *
  go_wp2_with fail
  refine (inside_any x0 y0 x1 y1 x y false (by simp [hI.out]) _).mono ?_
  rintro e w1 ⟨rfl, hb1⟩
  replace D0 := cell_kept D0 hb1
  replace D1 := cell_kept D1 hb1
  replace D2 := cell_kept D2 hb1
  replace D3 := cell_kept D3 hb1
  replace D4 := cell_kept D4 hb1
  replace D5 := cell_kept D5 hb1
  replace D6 := cell_kept D6 hb1
  replace HR := Lib.hid (HR.out.below hb1)
  replace HP := Lib.hid (HP.out.below hb1)
  replace hB := hB.trans (hb1.mono hB.size)
  clear hb1
  go_wp2_with fail
  refine (nearPoint_any x y true (by have := hN.out; simp only [this]; simp) _).mono ?_
  rintro e w' ⟨rfl, rfl⟩
  obtain ⟨⟨n1, n2⟩, ⟨n3, n4⟩⟩ := id hN.out
  have aw : Below w1.heap.size w1 ((w1.alloc (.cells #[.int .u8 7] 5)).alloc (.cells #[.int .i64 x, .int .i64 y, .int .i64 (x + 1), .int .i64 (y + 1), .int .i64 1, .slice (some ⟨w1.heap.size, 0, none⟩) 1 1, .slice none 0 0] 27)) := ((Below.refl _ _).alloc (Nat.le_refl _) _).alloc (by simp) _
  replace D0 := cell_kept D0 aw
  replace D1 := cell_kept D1 aw
  replace D2 := cell_kept D2 aw
  replace D3 := cell_kept D3 aw
  replace D4 := cell_kept D4 aw
  replace D5 := cell_kept D5 aw
  replace D6 := cell_kept D6 aw
  replace HR := Lib.hid (HR.out.below aw)
  replace HP := Lib.hid (HP.out.below aw)
  replace hB := hB.trans (aw.mono hB.size)
  clear aw
  have s0 : ((w1.alloc (.cells #[.int .u8 7] 5)).alloc (.cells #[.int .i64 x, .int .i64 y, .int .i64 (x + 1), .int .i64 (y + 1), .int .i64 1, .slice (some ⟨w1.heap.size, 0, none⟩) 1 1, .slice none 0 0] 27)).cell? ⟨w1.heap.size, 0, none⟩ = some (.int .u8 7) := by first | (simp; done) | go_simp
  have O0 : ((w1.alloc (.cells #[.int .u8 7] 5)).alloc (.cells #[.int .i64 x, .int .i64 y, .int .i64 (x + 1), .int .i64 (y + 1), .int .i64 1, .slice (some ⟨w1.heap.size, 0, none⟩) 1 1, .slice none 0 0] 27)).cell? ⟨w1.heap.size + 1, 0, none⟩ = some (.int .i64 x) := by first | (simp; done) | go_simp
  have O1 : ((w1.alloc (.cells #[.int .u8 7] 5)).alloc (.cells #[.int .i64 x, .int .i64 y, .int .i64 (x + 1), .int .i64 (y + 1), .int .i64 1, .slice (some ⟨w1.heap.size, 0, none⟩) 1 1, .slice none 0 0] 27)).cell? ⟨w1.heap.size + 1, 1, none⟩ = some (.int .i64 y) := by first | (simp; done) | go_simp
  have O2 : ((w1.alloc (.cells #[.int .u8 7] 5)).alloc (.cells #[.int .i64 x, .int .i64 y, .int .i64 (x + 1), .int .i64 (y + 1), .int .i64 1, .slice (some ⟨w1.heap.size, 0, none⟩) 1 1, .slice none 0 0] 27)).cell? ⟨w1.heap.size + 1, 2, none⟩ = some (.int .i64 (x + 1)) := by first | (simp; done) | go_simp
  have O3 : ((w1.alloc (.cells #[.int .u8 7] 5)).alloc (.cells #[.int .i64 x, .int .i64 y, .int .i64 (x + 1), .int .i64 (y + 1), .int .i64 1, .slice (some ⟨w1.heap.size, 0, none⟩) 1 1, .slice none 0 0] 27)).cell? ⟨w1.heap.size + 1, 3, none⟩ = some (.int .i64 (y + 1)) := by first | (simp; done) | go_simp
  have O4 : ((w1.alloc (.cells #[.int .u8 7] 5)).alloc (.cells #[.int .i64 x, .int .i64 y, .int .i64 (x + 1), .int .i64 (y + 1), .int .i64 1, .slice (some ⟨w1.heap.size, 0, none⟩) 1 1, .slice none 0 0] 27)).cell? ⟨w1.heap.size + 1, 4, none⟩ = some (.int .i64 1) := by first | (simp; done) | go_simp
  have O5 : ((w1.alloc (.cells #[.int .u8 7] 5)).alloc (.cells #[.int .i64 x, .int .i64 y, .int .i64 (x + 1), .int .i64 (y + 1), .int .i64 1, .slice (some ⟨w1.heap.size, 0, none⟩) 1 1, .slice none 0 0] 27)).cell? ⟨w1.heap.size + 1, 5, none⟩ = some (.slice (some ⟨w1.heap.size, 0, none⟩) 1 1) := by first | (simp; done) | go_simp
  have O6 : ((w1.alloc (.cells #[.int .u8 7] 5)).alloc (.cells #[.int .i64 x, .int .i64 y, .int .i64 (x + 1), .int .i64 (y + 1), .int .i64 1, .slice (some ⟨w1.heap.size, 0, none⟩) 1 1, .slice none 0 0] 27)).cell? ⟨w1.heap.size + 1, 6, none⟩ = some (.slice none 0 0) := by first | (simp; done) | go_simp
  go_wp2_with fail
  generalize ((w1.alloc (.cells #[.int .u8 7] 5)).alloc (.cells #[.int .i64 x, .int .i64 y, .int .i64 (x + 1), .int .i64 (y + 1), .int .i64 1, .slice (some ⟨w1.heap.size, 0, none⟩) 1 1, .slice none 0 0] 27)) = W1 at *
  generalize w1.heap.size + 1 = a2 at *
  generalize w1.heap.size = a1 at *
  refine (implIndex_out x0 y0 x1 y1 s A c zs B k ps x y _ HR hl hn HP pl hI).mono ?_
  rintro e w2 ⟨rfl, hb2⟩
  replace D0 := cell_kept D0 hb2
  replace D1 := cell_kept D1 hb2
  replace D2 := cell_kept D2 hb2
  replace D3 := cell_kept D3 hb2
  replace D4 := cell_kept D4 hb2
  replace D5 := cell_kept D5 hb2
  replace D6 := cell_kept D6 hb2
  replace s0 := cell_kept s0 hb2
  replace O0 := cell_kept O0 hb2
  replace O1 := cell_kept O1 hb2
  replace O2 := cell_kept O2 hb2
  replace O3 := cell_kept O3 hb2
  replace O4 := cell_kept O4 hb2
  replace O5 := cell_kept O5 hb2
  replace O6 := cell_kept O6 hb2
  replace HR := Lib.hid (HR.out.below hb2)
  replace HP := Lib.hid (HP.out.below hb2)
  replace hB := hB.trans (hb2.mono hB.size)
  clear hb2
  clear HR HP
  have R1 := Lib.hid (reads_one s0)
  go_wp2_with fail
  refine (implIndex_in x y (x + 1) (y + 1) 1 (some ⟨a1, 0, none⟩) 1 [7] none 0 [] x y _ R1 one_small (show Hid _ from fun e => (by cases e)) (show Hid _ from preads_nil _) (by simp) 0 7 (show Hid _ from (by unfold Hid Insd; omega)) (by omega) (by omega) (by omega) (by omega) (by omega) (by omega) (show Hid _ from (by unfold Hid; omega)) (by simp) (show Hid _ from rfl)).mono ?_
  rintro e w3 ⟨rfl, hb3⟩
  replace D0 := cell_kept D0 hb3
  replace D1 := cell_kept D1 hb3
  replace D2 := cell_kept D2 hb3
  replace D3 := cell_kept D3 hb3
  replace D4 := cell_kept D4 hb3
  replace D5 := cell_kept D5 hb3
  replace D6 := cell_kept D6 hb3
  replace s0 := cell_kept s0 hb3
  replace O0 := cell_kept O0 hb3
  replace O1 := cell_kept O1 hb3
  replace O2 := cell_kept O2 hb3
  replace O3 := cell_kept O3 hb3
  replace O4 := cell_kept O4 hb3
  replace O5 := cell_kept O5 hb3
  replace O6 := cell_kept O6 hb3
  replace hB := hB.trans (hb3.mono hB.size)
  clear hb3
  go_wp2
  go_ret
  exact ⟨by simp, hB⟩

theorem walk_indexOutside (x0 y0 x1 y1 s : Int) (A : Option Addr) (c : Nat) (zs : List Int) (B : Option Addr) (k : Nat) (ps : List (Int × Int × Int × Int)) (x y : Int) (w : World) (hr : Hid (Reads w A zs)) (hl : Small zs) (hn : Hid (A = none → c = 0)) (pr : Hid (PReads w B ps)) (pl : (ps.length : Int) ≤ 2097152) :
    Calls Try.prog 6 #[.agg #[.int .i64 x0, .int .i64 y0, .int .i64 x1, .int .i64 y1, .int .i64 s, .slice A zs.length c, .slice B ps.length k], .int .i64 x, .int .i64 y] w fun e w' => e = .returned (.bool true) ∧ Below w.heap.size w w' := by
  by_cases hI : Insd x0 y0 x1 y1 x y
  · exact ixo_in x0 y0 x1 y1 s A c zs B k ps x y w hr hl hn pr pl hI
  · by_cases hN : Near x ∧ Near y
    · exact ixo_out x0 y0 x1 y1 s A c zs B k ps x y w hr hl hn pr pl hI hN
    · exact ixo_far x0 y0 x1 y1 s A c zs B k ps x y w hr hl hn pr pl hI hN

end Go.Proofs.Ytkhgobeeaiagfaa
