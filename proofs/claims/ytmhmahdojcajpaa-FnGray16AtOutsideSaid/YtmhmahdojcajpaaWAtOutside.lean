/- The walk of the law FnGray16AtOutside. -/
import Derived.Test.YtmhmahdojcajpaaRep
import Derived.Test.YtmhmahdojcajpaaWAt
namespace Go.Proofs.Ytmhmahdojcajpaa
open Go.RowKit
set_option linter.unusedVariables false
set_option linter.unusedSimpArgs false

theorem ones_bytes : Bytes (List.replicate 2 1) := fun z hz => by obtain ⟨_, rfl⟩ := List.mem_replicate.1 hz; omega
theorem ones_small : Small (List.replicate 2 (1 : Int)) := by unfold Small; rw [List.length_replicate]; omega

set_option maxRecDepth 100000 in
set_option maxHeartbeats 2000000 in
theorem ato_in (x0 y0 x1 y1 s x y : Int) (A : Option Addr) (c : Nat) (zs : List Int) (w : World) (hr : Hid (Reads w A zs)) (hy : Hid (Bytes zs)) (hl : Small zs) (hn : Hid (A = none → c = 0)) (hI : Hid (Insd x0 y0 x1 y1 x y)) :
    Calls Try.prog 14 #[.agg #[.int .i64 x0, .int .i64 y0, .int .i64 x1, .int .i64 y1, .int .i64 s, .slice A zs.length c], .int .i64 x, .int .i64 y] w fun e w' => e = .returned (.bool true) ∧ Below w.heap.size w w' := by
  have hB : Below w.heap.size w (w.alloc (.cells #[.int .i64 x0, .int .i64 y0, .int .i64 x1, .int .i64 y1, .int .i64 s, .slice A zs.length c] 26)) := (Below.refl _ _).alloc (Nat.le_refl _) _
  have D0 : (w.alloc (.cells #[.int .i64 x0, .int .i64 y0, .int .i64 x1, .int .i64 y1, .int .i64 s, .slice A zs.length c] 26)).cell? ⟨w.heap.size, 0, none⟩ = some (.int .i64 x0) := by first | (simp; done) | go_simp
  have D1 : (w.alloc (.cells #[.int .i64 x0, .int .i64 y0, .int .i64 x1, .int .i64 y1, .int .i64 s, .slice A zs.length c] 26)).cell? ⟨w.heap.size, 1, none⟩ = some (.int .i64 y0) := by first | (simp; done) | go_simp
  have D2 : (w.alloc (.cells #[.int .i64 x0, .int .i64 y0, .int .i64 x1, .int .i64 y1, .int .i64 s, .slice A zs.length c] 26)).cell? ⟨w.heap.size, 2, none⟩ = some (.int .i64 x1) := by first | (simp; done) | go_simp
  have D3 : (w.alloc (.cells #[.int .i64 x0, .int .i64 y0, .int .i64 x1, .int .i64 y1, .int .i64 s, .slice A zs.length c] 26)).cell? ⟨w.heap.size, 3, none⟩ = some (.int .i64 y1) := by first | (simp; done) | go_simp
  have D4 : (w.alloc (.cells #[.int .i64 x0, .int .i64 y0, .int .i64 x1, .int .i64 y1, .int .i64 s, .slice A zs.length c] 26)).cell? ⟨w.heap.size, 4, none⟩ = some (.int .i64 s) := by first | (simp; done) | go_simp
  have D5 : (w.alloc (.cells #[.int .i64 x0, .int .i64 y0, .int .i64 x1, .int .i64 y1, .int .i64 s, .slice A zs.length c] 26)).cell? ⟨w.heap.size, 5, none⟩ = some (.slice A zs.length c) := by first | (simp; done) | go_simp
  have HR := Lib.hid (hr.out.below hB)
  go_enter Try.func14, Try.ntmps14
  go_wp2_with fail
  generalize w.alloc (.cells #[.int .i64 x0, .int .i64 y0, .int .i64 x1, .int .i64 y1, .int .i64 s, .slice A zs.length c] 26) = W0 at *
  refine (inside_any x0 y0 x1 y1 x y true (by simp [hI.out]) _).mono ?_
  rintro e w1 ⟨rfl, hb1⟩
  replace D0 := cell_kept D0 hb1
  replace D1 := cell_kept D1 hb1
  replace D2 := cell_kept D2 hb1
  replace D3 := cell_kept D3 hb1
  replace D4 := cell_kept D4 hb1
  replace D5 := cell_kept D5 hb1
  replace HR := Lib.hid (HR.out.below hb1)
  replace hB := hB.trans (hb1.mono hB.size)
  clear hb1
  go_wp2
  go_ret
  exact ⟨by simp, hB⟩

set_option maxRecDepth 100000 in
set_option maxHeartbeats 2000000 in
theorem ato_far (x0 y0 x1 y1 s x y : Int) (A : Option Addr) (c : Nat) (zs : List Int) (w : World) (hr : Hid (Reads w A zs)) (hy : Hid (Bytes zs)) (hl : Small zs) (hn : Hid (A = none → c = 0)) (hI : Hid (¬ Insd x0 y0 x1 y1 x y)) (hN : Hid (¬ (Near x ∧ Near y))) :
    Calls Try.prog 14 #[.agg #[.int .i64 x0, .int .i64 y0, .int .i64 x1, .int .i64 y1, .int .i64 s, .slice A zs.length c], .int .i64 x, .int .i64 y] w fun e w' => e = .returned (.bool true) ∧ Below w.heap.size w w' := by
  have hB : Below w.heap.size w (w.alloc (.cells #[.int .i64 x0, .int .i64 y0, .int .i64 x1, .int .i64 y1, .int .i64 s, .slice A zs.length c] 26)) := (Below.refl _ _).alloc (Nat.le_refl _) _
  have D0 : (w.alloc (.cells #[.int .i64 x0, .int .i64 y0, .int .i64 x1, .int .i64 y1, .int .i64 s, .slice A zs.length c] 26)).cell? ⟨w.heap.size, 0, none⟩ = some (.int .i64 x0) := by first | (simp; done) | go_simp
  have D1 : (w.alloc (.cells #[.int .i64 x0, .int .i64 y0, .int .i64 x1, .int .i64 y1, .int .i64 s, .slice A zs.length c] 26)).cell? ⟨w.heap.size, 1, none⟩ = some (.int .i64 y0) := by first | (simp; done) | go_simp
  have D2 : (w.alloc (.cells #[.int .i64 x0, .int .i64 y0, .int .i64 x1, .int .i64 y1, .int .i64 s, .slice A zs.length c] 26)).cell? ⟨w.heap.size, 2, none⟩ = some (.int .i64 x1) := by first | (simp; done) | go_simp
  have D3 : (w.alloc (.cells #[.int .i64 x0, .int .i64 y0, .int .i64 x1, .int .i64 y1, .int .i64 s, .slice A zs.length c] 26)).cell? ⟨w.heap.size, 3, none⟩ = some (.int .i64 y1) := by first | (simp; done) | go_simp
  have D4 : (w.alloc (.cells #[.int .i64 x0, .int .i64 y0, .int .i64 x1, .int .i64 y1, .int .i64 s, .slice A zs.length c] 26)).cell? ⟨w.heap.size, 4, none⟩ = some (.int .i64 s) := by first | (simp; done) | go_simp
  have D5 : (w.alloc (.cells #[.int .i64 x0, .int .i64 y0, .int .i64 x1, .int .i64 y1, .int .i64 s, .slice A zs.length c] 26)).cell? ⟨w.heap.size, 5, none⟩ = some (.slice A zs.length c) := by first | (simp; done) | go_simp
  have HR := Lib.hid (hr.out.below hB)
  go_enter Try.func14, Try.ntmps14
  go_wp2_with fail
  generalize w.alloc (.cells #[.int .i64 x0, .int .i64 y0, .int .i64 x1, .int .i64 y1, .int .i64 s, .slice A zs.length c] 26) = W0 at *
  refine (inside_any x0 y0 x1 y1 x y false (by simp [hI.out]) _).mono ?_
  rintro e w1 ⟨rfl, hb1⟩
  replace D0 := cell_kept D0 hb1
  replace D1 := cell_kept D1 hb1
  replace D2 := cell_kept D2 hb1
  replace D3 := cell_kept D3 hb1
  replace D4 := cell_kept D4 hb1
  replace D5 := cell_kept D5 hb1
  replace HR := Lib.hid (HR.out.below hb1)
  replace hB := hB.trans (hb1.mono hB.size)
  clear hb1
  go_wp2_with fail
  refine (nearPoint_any x y false (by simp [hN.out]) _).mono ?_
  rintro e w' ⟨rfl, rfl⟩
  go_wp2
  go_ret
  exact ⟨by simp, hB⟩

set_option maxRecDepth 100000 in
set_option maxHeartbeats 2000000 in
theorem ato_out (x0 y0 x1 y1 s x y : Int) (A : Option Addr) (c : Nat) (zs : List Int) (w : World) (hr : Hid (Reads w A zs)) (hy : Hid (Bytes zs)) (hl : Small zs) (hn : Hid (A = none → c = 0)) (hI : Hid (¬ Insd x0 y0 x1 y1 x y)) (hN : Hid (Near x ∧ Near y)) :
    Calls Try.prog 14 #[.agg #[.int .i64 x0, .int .i64 y0, .int .i64 x1, .int .i64 y1, .int .i64 s, .slice A zs.length c], .int .i64 x, .int .i64 y] w fun e w' => e = .returned (.bool true) ∧ Below w.heap.size w w' := by
  have hB : Below w.heap.size w (w.alloc (.cells #[.int .i64 x0, .int .i64 y0, .int .i64 x1, .int .i64 y1, .int .i64 s, .slice A zs.length c] 26)) := (Below.refl _ _).alloc (Nat.le_refl _) _
  have D0 : (w.alloc (.cells #[.int .i64 x0, .int .i64 y0, .int .i64 x1, .int .i64 y1, .int .i64 s, .slice A zs.length c] 26)).cell? ⟨w.heap.size, 0, none⟩ = some (.int .i64 x0) := by first | (simp; done) | go_simp
  have D1 : (w.alloc (.cells #[.int .i64 x0, .int .i64 y0, .int .i64 x1, .int .i64 y1, .int .i64 s, .slice A zs.length c] 26)).cell? ⟨w.heap.size, 1, none⟩ = some (.int .i64 y0) := by first | (simp; done) | go_simp
  have D2 : (w.alloc (.cells #[.int .i64 x0, .int .i64 y0, .int .i64 x1, .int .i64 y1, .int .i64 s, .slice A zs.length c] 26)).cell? ⟨w.heap.size, 2, none⟩ = some (.int .i64 x1) := by first | (simp; done) | go_simp
  have D3 : (w.alloc (.cells #[.int .i64 x0, .int .i64 y0, .int .i64 x1, .int .i64 y1, .int .i64 s, .slice A zs.length c] 26)).cell? ⟨w.heap.size, 3, none⟩ = some (.int .i64 y1) := by first | (simp; done) | go_simp
  have D4 : (w.alloc (.cells #[.int .i64 x0, .int .i64 y0, .int .i64 x1, .int .i64 y1, .int .i64 s, .slice A zs.length c] 26)).cell? ⟨w.heap.size, 4, none⟩ = some (.int .i64 s) := by first | (simp; done) | go_simp
  have D5 : (w.alloc (.cells #[.int .i64 x0, .int .i64 y0, .int .i64 x1, .int .i64 y1, .int .i64 s, .slice A zs.length c] 26)).cell? ⟨w.heap.size, 5, none⟩ = some (.slice A zs.length c) := by first | (simp; done) | go_simp
  have HR := Lib.hid (hr.out.below hB)
  go_enter Try.func14, Try.ntmps14
  go_wp2_with fail
  generalize w.alloc (.cells #[.int .i64 x0, .int .i64 y0, .int .i64 x1, .int .i64 y1, .int .i64 s, .slice A zs.length c] 26) = W0 at *
  refine (inside_any x0 y0 x1 y1 x y false (by simp [hI.out]) _).mono ?_
  rintro e w1 ⟨rfl, hb1⟩
  replace D0 := cell_kept D0 hb1
  replace D1 := cell_kept D1 hb1
  replace D2 := cell_kept D2 hb1
  replace D3 := cell_kept D3 hb1
  replace D4 := cell_kept D4 hb1
  replace D5 := cell_kept D5 hb1
  replace HR := Lib.hid (HR.out.below hb1)
  replace hB := hB.trans (hb1.mono hB.size)
  clear hb1
  go_wp2_with fail
  refine (nearPoint_any x y true (by simp [hN.out]) _).mono ?_
  rintro e w' ⟨rfl, rfl⟩
  obtain ⟨⟨n1, n2⟩, ⟨n3, n4⟩⟩ := id hN.out
  have aw : Below w1.heap.size w1 (w1.alloc (.cells #[.int .u8 1] 5)) := (Below.refl _ _).alloc (Nat.le_refl _) _
  replace D0 := cell_kept D0 aw
  replace D1 := cell_kept D1 aw
  replace D2 := cell_kept D2 aw
  replace D3 := cell_kept D3 aw
  replace D4 := cell_kept D4 aw
  replace D5 := cell_kept D5 aw
  replace HR := Lib.hid (HR.out.below aw)
  replace hB := hB.trans (aw.mono hB.size)
  clear aw
  have q0 : (w1.alloc (.cells #[.int .u8 1] 5)).cell? ⟨w1.heap.size, 0, none⟩ = some (.int .u8 1) := by simp
  go_wp2_with fail
  generalize w1.alloc (.cells #[.int .u8 1] 5) = W1 at *
  generalize w1.heap.size = bq at *
  refine (repeat_any bq _ q0).mono ?_
  rintro e w2 ⟨bo, rfl, hro, hb2⟩
  have HRo := Lib.hid hro
  clear hro q0
  replace D0 := cell_kept D0 hb2
  replace D1 := cell_kept D1 hb2
  replace D2 := cell_kept D2 hb2
  replace D3 := cell_kept D3 hb2
  replace D4 := cell_kept D4 hb2
  replace D5 := cell_kept D5 hb2
  replace HR := Lib.hid (HR.out.below hb2)
  replace hB := hB.trans (hb2.mono hB.size)
  clear hb2
  have aw : Below w2.heap.size w2 (w2.alloc (.cells #[.int .i64 x, .int .i64 y, .int .i64 (x + 1), .int .i64 (y + 1), .int .i64 2, .slice (some ⟨bo, 0, none⟩) 2 2] 26)) := (Below.refl _ _).alloc (Nat.le_refl _) _
  replace D0 := cell_kept D0 aw
  replace D1 := cell_kept D1 aw
  replace D2 := cell_kept D2 aw
  replace D3 := cell_kept D3 aw
  replace D4 := cell_kept D4 aw
  replace D5 := cell_kept D5 aw
  replace HR := Lib.hid (HR.out.below aw)
  replace HRo := Lib.hid (HRo.out.below aw)
  replace hB := hB.trans (aw.mono hB.size)
  have O0 : (w2.alloc (.cells #[.int .i64 x, .int .i64 y, .int .i64 (x + 1), .int .i64 (y + 1), .int .i64 2, .slice (some ⟨bo, 0, none⟩) 2 2] 26)).cell? ⟨w2.heap.size, 0, none⟩ = some (.int .i64 x) := by simp
  have O1 : (w2.alloc (.cells #[.int .i64 x, .int .i64 y, .int .i64 (x + 1), .int .i64 (y + 1), .int .i64 2, .slice (some ⟨bo, 0, none⟩) 2 2] 26)).cell? ⟨w2.heap.size, 1, none⟩ = some (.int .i64 y) := by simp
  have O2 : (w2.alloc (.cells #[.int .i64 x, .int .i64 y, .int .i64 (x + 1), .int .i64 (y + 1), .int .i64 2, .slice (some ⟨bo, 0, none⟩) 2 2] 26)).cell? ⟨w2.heap.size, 2, none⟩ = some (.int .i64 (x + 1)) := by simp
  have O3 : (w2.alloc (.cells #[.int .i64 x, .int .i64 y, .int .i64 (x + 1), .int .i64 (y + 1), .int .i64 2, .slice (some ⟨bo, 0, none⟩) 2 2] 26)).cell? ⟨w2.heap.size, 3, none⟩ = some (.int .i64 (y + 1)) := by simp
  have O4 : (w2.alloc (.cells #[.int .i64 x, .int .i64 y, .int .i64 (x + 1), .int .i64 (y + 1), .int .i64 2, .slice (some ⟨bo, 0, none⟩) 2 2] 26)).cell? ⟨w2.heap.size, 4, none⟩ = some (.int .i64 2) := by simp
  have O5 : (w2.alloc (.cells #[.int .i64 x, .int .i64 y, .int .i64 (x + 1), .int .i64 (y + 1), .int .i64 2, .slice (some ⟨bo, 0, none⟩) 2 2] 26)).cell? ⟨w2.heap.size, 5, none⟩ = some (.slice (some ⟨bo, 0, none⟩) 2 2) := by simp
  have hltW2 : w2.heap.size < (w2.alloc (.cells #[.int .i64 x, .int .i64 y, .int .i64 (x + 1), .int .i64 (y + 1), .int .i64 2, .slice (some ⟨bo, 0, none⟩) 2 2] 26)).heap.size := by simp
  clear aw
  go_wp2_with fail
  generalize w2.alloc (.cells #[.int .i64 x, .int .i64 y, .int .i64 (x + 1), .int .i64 (y + 1), .int .i64 2, .slice (some ⟨bo, 0, none⟩) 2 2] 26) = W2 at *
  generalize w2.heap.size = bx at *
  refine (implAt_out x0 y0 x1 y1 s x y A c zs _ HR hl hn hI).mono ?_
  rintro e w3 ⟨rfl, hb3⟩
  replace D0 := cell_kept D0 hb3
  replace D1 := cell_kept D1 hb3
  replace D2 := cell_kept D2 hb3
  replace D3 := cell_kept D3 hb3
  replace D4 := cell_kept D4 hb3
  replace D5 := cell_kept D5 hb3
  replace O0 := cell_kept O0 hb3
  replace O1 := cell_kept O1 hb3
  replace O2 := cell_kept O2 hb3
  replace O3 := cell_kept O3 hb3
  replace O4 := cell_kept O4 hb3
  replace O5 := cell_kept O5 hb3
  replace HR := Lib.hid (HR.out.below hb3)
  replace HRo := Lib.hid (HRo.out.below hb3)
  replace hB := hB.trans (hb3.mono hB.size)
  clear hb3
  have HRo' : Hid (Reads w3 (some ⟨bo, 0, none⟩) (List.replicate 2 1)) := HRo
  clear HRo
  go_wp2_with fail
  refine (implAt_in x y (x + 1) (y + 1) 2 x y (some ⟨bo, 0, none⟩) 2 0 (List.replicate 2 1) _ HRo' ones_bytes ones_small (show Hid _ from fun e => (by cases e)) (show Hid _ from (by unfold Hid Insd; omega)) (show Hid _ from (by unfold Hid; omega)) (by omega) (by omega) (by omega) (by omega) (by omega) (by omega) (show Hid _ from (by unfold Hid; rw [List.length_replicate]; omega))).mono ?_
  rintro e w4 ⟨rfl, hb4⟩
  replace D0 := cell_kept D0 hb4
  replace D1 := cell_kept D1 hb4
  replace D2 := cell_kept D2 hb4
  replace D3 := cell_kept D3 hb4
  replace D4 := cell_kept D4 hb4
  replace D5 := cell_kept D5 hb4
  replace O0 := cell_kept O0 hb4
  replace O1 := cell_kept O1 hb4
  replace O2 := cell_kept O2 hb4
  replace O3 := cell_kept O3 hb4
  replace O4 := cell_kept O4 hb4
  replace O5 := cell_kept O5 hb4
  replace HR := Lib.hid (HR.out.below hb4)
  replace hB := hB.trans (hb4.mono hB.size)
  clear hb4
  go_wp2
  go_ret
  exact ⟨by simp [numAt], hB⟩

theorem walk_atOutside (x0 y0 x1 y1 s x y : Int) (A : Option Addr) (c : Nat) (zs : List Int) (w : World) (hr : Hid (Reads w A zs)) (hy : Hid (Bytes zs)) (hl : Small zs) (hn : Hid (A = none → c = 0)) :
    Calls Try.prog 14 #[.agg #[.int .i64 x0, .int .i64 y0, .int .i64 x1, .int .i64 y1, .int .i64 s, .slice A zs.length c], .int .i64 x, .int .i64 y] w fun e w' => e = .returned (.bool true) ∧ Below w.heap.size w w' := by
  by_cases hI : Insd x0 y0 x1 y1 x y
  · exact ato_in x0 y0 x1 y1 s x y A c zs w hr hy hl hn hI
  · by_cases hN : Near x ∧ Near y
    · exact ato_out x0 y0 x1 y1 s x y A c zs w hr hy hl hn hI hN
    · exact ato_far x0 y0 x1 y1 s x y A c zs w hr hy hl hn hI hN

end Go.Proofs.Ytmhmahdojcajpaa
