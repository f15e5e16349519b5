/- Films: the laws' fair, ratio, among, chroma, there; the reference's Step. -/
import Derived.Test.YtcomldkihibfjaaFilmOff
import Derived.Deep.RegionHeld3
namespace Go.Proofs.Ytcomldkihibfjaa
open Go.RowKit
set_option linter.unusedVariables false
set_option linter.unusedSimpArgs false

/-- How many columns, and rows, of pixels have one chroma sample. -/
def stW (rt : Int) : Int := if rt = 1 ∨ rt = 2 then 2 else if rt = 4 ∨ rt = 5 then 4 else 1
def stH (rt : Int) : Int := if rt = 2 ∨ rt = 3 ∨ rt = 5 then 2 else 1
/-- Where the chroma samples of a pixel are. -/
def chr (x0 y0 rt cs x y : Int) : Int := (y / stH rt - y0 / stH rt) * cs + (x / stW rt - x0 / stW rt)
def FairF (x0 y0 x1 y1 ys cs at4 : Int) : Prop := Fair x0 y0 x1 y1 ∧ Near ys ∧ Near cs ∧ Near at4
instance (x0 y0 x1 y1 ys cs at4 : Int) : Decidable (FairF x0 y0 x1 y1 ys cs at4) := by unfold FairF; infer_instance
/-- A pixel of a film that is not below the origin: all its numbers are small. -/
structure Okay (x0 y0 x1 y1 rt ys cs at4 x y : Int) : Prop where
  fair : FairF x0 y0 x1 y1 ys cs at4
  insd : Insd x0 y0 x1 y1 x y
  r0 : 0 ≤ rt
  r5 : rt ≤ 5
  m1 : 0 ≤ x0
  m2 : 0 ≤ y0
theorem ratio_cases {rt : Int} (r0 : 0 ≤ rt) (r5 : rt ≤ 5) : rt = 0 ∨ rt = 1 ∨ rt = 2 ∨ rt = 3 ∨ rt = 4 ∨ rt = 5 := by omega
theorem Okay.nums {x0 y0 x1 y1 rt ys cs at4 x y : Int} (h : Okay x0 y0 x1 y1 rt ys cs at4 x y) : x0 ≤ 1099511627776 ∧ y0 ≤ 1099511627776 ∧ 0 ≤ x ∧ 0 ≤ y ∧ x ≤ 1099511627776 ∧ y ≤ 1099511627776 ∧
    -4398046511104 ≤ y - y0 ∧ y - y0 ≤ 4398046511104 ∧ -4398046511104 ≤ x - x0 ∧ x - x0 ≤ 4398046511104 := by
  obtain ⟨⟨⟨⟨⟨_, _⟩, ⟨_, _⟩, ⟨_, _⟩, ⟨_, _⟩⟩, _, _, _, _, _⟩, _, _, _⟩, ⟨_, _, _, _⟩, _, _, _, _⟩ := h
  omega
theorem prod_bd {a s : Int} (h0 : 0 ≤ a) (h1 : a ≤ 65536) (hs : Near s) : -2305843009213693952 ≤ a * s ∧ a * s ≤ 2305843009213693952 := by
  obtain ⟨s0, s1⟩ := hs
  have := mul_bd (a := a) (b := s) (A := 65536) (B := 1099511627776) (by omega) (by omega) (by omega) (by omega)
  omega
theorem Okay.prods {x0 y0 x1 y1 rt ys cs at4 x y : Int} (h : Okay x0 y0 x1 y1 rt ys cs at4 x y) : (-2305843009213693952 ≤ (y - y0) * ys ∧ (y - y0) * ys ≤ 2305843009213693952) ∧ (-2305843009213693952 ≤ (y - y0) * at4 ∧ (y - y0) * at4 ≤ 2305843009213693952) := by
  obtain ⟨⟨⟨_, _, _, _, _, _⟩, hy, hc, ha⟩, ⟨_, _, _, _⟩, _, _, _, _⟩ := h
  exact ⟨prod_bd (by omega) (by omega) hy, prod_bd (by omega) (by omega) ha⟩
theorem Okay.prodC {x0 y0 x1 y1 rt ys cs at4 x y : Int} (h : Okay x0 y0 x1 y1 rt ys cs at4 x y) : (-2305843009213693952 ≤ (y - y0) * cs ∧ (y - y0) * cs ≤ 2305843009213693952) ∧ (-2305843009213693952 ≤ (y / 2 - y0 / 2) * cs ∧ (y / 2 - y0 / 2) * cs ≤ 2305843009213693952) := by
  obtain ⟨⟨⟨_, _, _, _, _, _⟩, hy, hc, ha⟩, ⟨_, _, _, _⟩, _, _, _, _⟩ := h
  exact ⟨prod_bd (by omega) (by omega) hc, prod_bd (by omega) (by omega) hc⟩

set_option maxRecDepth 100000 in
set_option maxHeartbeats 2000000 in
theorem fairF_0 (x0 y0 x1 y1 rt ys cs at4 : Int) (A1 A2 A3 A4 : Option Addr) (c1 c2 c3 c4 : Nat) (z1 z2 z3 z4 : List Int) (w : World) (hF : Hid (¬ Fair x0 y0 x1 y1)) :
    Calls Try.prog 15 #[.agg #[.int .i64 x0, .int .i64 y0, .int .i64 x1, .int .i64 y1, .int .i64 rt, .int .i64 ys, .int .i64 cs, .int .i64 at4, .slice A1 z1.length c1, .slice A2 z2.length c2, .slice A3 z3.length c3, .slice A4 z4.length c4]] w fun e w' => e = .returned (.bool false) ∧ Below w.heap.size w w' := by
  have hB : Below w.heap.size w (w.alloc (.cells #[.int .i64 x0, .int .i64 y0, .int .i64 x1, .int .i64 y1, .int .i64 rt, .int .i64 ys, .int .i64 cs, .int .i64 at4, .slice A1 z1.length c1, .slice A2 z2.length c2, .slice A3 z3.length c3, .slice A4 z4.length c4] 30)) := (Below.refl _ _).alloc (Nat.le_refl _) _
  have D0 : (w.alloc (.cells #[.int .i64 x0, .int .i64 y0, .int .i64 x1, .int .i64 y1, .int .i64 rt, .int .i64 ys, .int .i64 cs, .int .i64 at4, .slice A1 z1.length c1, .slice A2 z2.length c2, .slice A3 z3.length c3, .slice A4 z4.length c4] 30)).cell? ⟨w.heap.size, 0, none⟩ = some (.int .i64 x0) := by first | (simp; done) | go_simp
  have D1 : (w.alloc (.cells #[.int .i64 x0, .int .i64 y0, .int .i64 x1, .int .i64 y1, .int .i64 rt, .int .i64 ys, .int .i64 cs, .int .i64 at4, .slice A1 z1.length c1, .slice A2 z2.length c2, .slice A3 z3.length c3, .slice A4 z4.length c4] 30)).cell? ⟨w.heap.size, 1, none⟩ = some (.int .i64 y0) := by first | (simp; done) | go_simp
  have D2 : (w.alloc (.cells #[.int .i64 x0, .int .i64 y0, .int .i64 x1, .int .i64 y1, .int .i64 rt, .int .i64 ys, .int .i64 cs, .int .i64 at4, .slice A1 z1.length c1, .slice A2 z2.length c2, .slice A3 z3.length c3, .slice A4 z4.length c4] 30)).cell? ⟨w.heap.size, 2, none⟩ = some (.int .i64 x1) := by first | (simp; done) | go_simp
  have D3 : (w.alloc (.cells #[.int .i64 x0, .int .i64 y0, .int .i64 x1, .int .i64 y1, .int .i64 rt, .int .i64 ys, .int .i64 cs, .int .i64 at4, .slice A1 z1.length c1, .slice A2 z2.length c2, .slice A3 z3.length c3, .slice A4 z4.length c4] 30)).cell? ⟨w.heap.size, 3, none⟩ = some (.int .i64 y1) := by first | (simp; done) | go_simp
  have D4 : (w.alloc (.cells #[.int .i64 x0, .int .i64 y0, .int .i64 x1, .int .i64 y1, .int .i64 rt, .int .i64 ys, .int .i64 cs, .int .i64 at4, .slice A1 z1.length c1, .slice A2 z2.length c2, .slice A3 z3.length c3, .slice A4 z4.length c4] 30)).cell? ⟨w.heap.size, 4, none⟩ = some (.int .i64 rt) := by first | (simp; done) | go_simp
  have D5 : (w.alloc (.cells #[.int .i64 x0, .int .i64 y0, .int .i64 x1, .int .i64 y1, .int .i64 rt, .int .i64 ys, .int .i64 cs, .int .i64 at4, .slice A1 z1.length c1, .slice A2 z2.length c2, .slice A3 z3.length c3, .slice A4 z4.length c4] 30)).cell? ⟨w.heap.size, 5, none⟩ = some (.int .i64 ys) := by first | (simp; done) | go_simp
  have D6 : (w.alloc (.cells #[.int .i64 x0, .int .i64 y0, .int .i64 x1, .int .i64 y1, .int .i64 rt, .int .i64 ys, .int .i64 cs, .int .i64 at4, .slice A1 z1.length c1, .slice A2 z2.length c2, .slice A3 z3.length c3, .slice A4 z4.length c4] 30)).cell? ⟨w.heap.size, 6, none⟩ = some (.int .i64 cs) := by first | (simp; done) | go_simp
  have D7 : (w.alloc (.cells #[.int .i64 x0, .int .i64 y0, .int .i64 x1, .int .i64 y1, .int .i64 rt, .int .i64 ys, .int .i64 cs, .int .i64 at4, .slice A1 z1.length c1, .slice A2 z2.length c2, .slice A3 z3.length c3, .slice A4 z4.length c4] 30)).cell? ⟨w.heap.size, 7, none⟩ = some (.int .i64 at4) := by first | (simp; done) | go_simp
  have D8 : (w.alloc (.cells #[.int .i64 x0, .int .i64 y0, .int .i64 x1, .int .i64 y1, .int .i64 rt, .int .i64 ys, .int .i64 cs, .int .i64 at4, .slice A1 z1.length c1, .slice A2 z2.length c2, .slice A3 z3.length c3, .slice A4 z4.length c4] 30)).cell? ⟨w.heap.size, 8, none⟩ = some (.slice A1 z1.length c1) := by first | (simp; done) | go_simp
  have D9 : (w.alloc (.cells #[.int .i64 x0, .int .i64 y0, .int .i64 x1, .int .i64 y1, .int .i64 rt, .int .i64 ys, .int .i64 cs, .int .i64 at4, .slice A1 z1.length c1, .slice A2 z2.length c2, .slice A3 z3.length c3, .slice A4 z4.length c4] 30)).cell? ⟨w.heap.size, 9, none⟩ = some (.slice A2 z2.length c2) := by first | (simp; done) | go_simp
  have D10 : (w.alloc (.cells #[.int .i64 x0, .int .i64 y0, .int .i64 x1, .int .i64 y1, .int .i64 rt, .int .i64 ys, .int .i64 cs, .int .i64 at4, .slice A1 z1.length c1, .slice A2 z2.length c2, .slice A3 z3.length c3, .slice A4 z4.length c4] 30)).cell? ⟨w.heap.size, 10, none⟩ = some (.slice A3 z3.length c3) := by first | (simp; done) | go_simp
  have D11 : (w.alloc (.cells #[.int .i64 x0, .int .i64 y0, .int .i64 x1, .int .i64 y1, .int .i64 rt, .int .i64 ys, .int .i64 cs, .int .i64 at4, .slice A1 z1.length c1, .slice A2 z2.length c2, .slice A3 z3.length c3, .slice A4 z4.length c4] 30)).cell? ⟨w.heap.size, 11, none⟩ = some (.slice A4 z4.length c4) := by first | (simp; done) | go_simp
  go_enter Try.func15, Try.ntmps15
  go_wp2_with fail
  generalize w.alloc (.cells #[.int .i64 x0, .int .i64 y0, .int .i64 x1, .int .i64 y1, .int .i64 rt, .int .i64 ys, .int .i64 cs, .int .i64 at4, .slice A1 z1.length c1, .slice A2 z2.length c2, .slice A3 z3.length c3, .slice A4 z4.length c4] 30) = W0 at *
  go_wp2_with fail
  refine (box_any x0 y0 x1 y1 _).mono ?_
  rintro e w1 ⟨rfl, hb1⟩
  replace D0 := cell_kept D0 hb1
  replace D1 := cell_kept D1 hb1
  replace D2 := cell_kept D2 hb1
  replace D3 := cell_kept D3 hb1
  replace D4 := cell_kept D4 hb1
  replace D5 := cell_kept D5 hb1
  replace D6 := cell_kept D6 hb1
  replace D7 := cell_kept D7 hb1
  replace D8 := cell_kept D8 hb1
  replace D9 := cell_kept D9 hb1
  replace D10 := cell_kept D10 hb1
  replace D11 := cell_kept D11 hb1
  replace hB := hB.trans (hb1.mono hB.size)
  clear hb1
  go_wp2_with fail
  refine (fair_any x0 y0 x1 y1 false (by simp [hF.out]) _).mono ?_
  rintro e w2 ⟨rfl, hb2⟩
  replace D0 := cell_kept D0 hb2
  replace D1 := cell_kept D1 hb2
  replace D2 := cell_kept D2 hb2
  replace D3 := cell_kept D3 hb2
  replace D4 := cell_kept D4 hb2
  replace D5 := cell_kept D5 hb2
  replace D6 := cell_kept D6 hb2
  replace D7 := cell_kept D7 hb2
  replace D8 := cell_kept D8 hb2
  replace D9 := cell_kept D9 hb2
  replace D10 := cell_kept D10 hb2
  replace D11 := cell_kept D11 hb2
  replace hB := hB.trans (hb2.mono hB.size)
  clear hb2
  go_wp2
  go_ret
  exact ⟨by simp, hB⟩

set_option maxRecDepth 100000 in
set_option maxHeartbeats 2000000 in
theorem fairF_1 (x0 y0 x1 y1 rt ys cs at4 : Int) (A1 A2 A3 A4 : Option Addr) (c1 c2 c3 c4 : Nat) (z1 z2 z3 z4 : List Int) (w : World) (hF : Hid (Fair x0 y0 x1 y1)) (hN : Hid (¬ (Near ys ∧ Near cs))) :
    Calls Try.prog 15 #[.agg #[.int .i64 x0, .int .i64 y0, .int .i64 x1, .int .i64 y1, .int .i64 rt, .int .i64 ys, .int .i64 cs, .int .i64 at4, .slice A1 z1.length c1, .slice A2 z2.length c2, .slice A3 z3.length c3, .slice A4 z4.length c4]] w fun e w' => e = .returned (.bool false) ∧ Below w.heap.size w w' := by
  have hB : Below w.heap.size w (w.alloc (.cells #[.int .i64 x0, .int .i64 y0, .int .i64 x1, .int .i64 y1, .int .i64 rt, .int .i64 ys, .int .i64 cs, .int .i64 at4, .slice A1 z1.length c1, .slice A2 z2.length c2, .slice A3 z3.length c3, .slice A4 z4.length c4] 30)) := (Below.refl _ _).alloc (Nat.le_refl _) _
  have D0 : (w.alloc (.cells #[.int .i64 x0, .int .i64 y0, .int .i64 x1, .int .i64 y1, .int .i64 rt, .int .i64 ys, .int .i64 cs, .int .i64 at4, .slice A1 z1.length c1, .slice A2 z2.length c2, .slice A3 z3.length c3, .slice A4 z4.length c4] 30)).cell? ⟨w.heap.size, 0, none⟩ = some (.int .i64 x0) := by first | (simp; done) | go_simp
  have D1 : (w.alloc (.cells #[.int .i64 x0, .int .i64 y0, .int .i64 x1, .int .i64 y1, .int .i64 rt, .int .i64 ys, .int .i64 cs, .int .i64 at4, .slice A1 z1.length c1, .slice A2 z2.length c2, .slice A3 z3.length c3, .slice A4 z4.length c4] 30)).cell? ⟨w.heap.size, 1, none⟩ = some (.int .i64 y0) := by first | (simp; done) | go_simp
  have D2 : (w.alloc (.cells #[.int .i64 x0, .int .i64 y0, .int .i64 x1, .int .i64 y1, .int .i64 rt, .int .i64 ys, .int .i64 cs, .int .i64 at4, .slice A1 z1.length c1, .slice A2 z2.length c2, .slice A3 z3.length c3, .slice A4 z4.length c4] 30)).cell? ⟨w.heap.size, 2, none⟩ = some (.int .i64 x1) := by first | (simp; done) | go_simp
  have D3 : (w.alloc (.cells #[.int .i64 x0, .int .i64 y0, .int .i64 x1, .int .i64 y1, .int .i64 rt, .int .i64 ys, .int .i64 cs, .int .i64 at4, .slice A1 z1.length c1, .slice A2 z2.length c2, .slice A3 z3.length c3, .slice A4 z4.length c4] 30)).cell? ⟨w.heap.size, 3, none⟩ = some (.int .i64 y1) := by first | (simp; done) | go_simp
  have D4 : (w.alloc (.cells #[.int .i64 x0, .int .i64 y0, .int .i64 x1, .int .i64 y1, .int .i64 rt, .int .i64 ys, .int .i64 cs, .int .i64 at4, .slice A1 z1.length c1, .slice A2 z2.length c2, .slice A3 z3.length c3, .slice A4 z4.length c4] 30)).cell? ⟨w.heap.size, 4, none⟩ = some (.int .i64 rt) := by first | (simp; done) | go_simp
  have D5 : (w.alloc (.cells #[.int .i64 x0, .int .i64 y0, .int .i64 x1, .int .i64 y1, .int .i64 rt, .int .i64 ys, .int .i64 cs, .int .i64 at4, .slice A1 z1.length c1, .slice A2 z2.length c2, .slice A3 z3.length c3, .slice A4 z4.length c4] 30)).cell? ⟨w.heap.size, 5, none⟩ = some (.int .i64 ys) := by first | (simp; done) | go_simp
  have D6 : (w.alloc (.cells #[.int .i64 x0, .int .i64 y0, .int .i64 x1, .int .i64 y1, .int .i64 rt, .int .i64 ys, .int .i64 cs, .int .i64 at4, .slice A1 z1.length c1, .slice A2 z2.length c2, .slice A3 z3.length c3, .slice A4 z4.length c4] 30)).cell? ⟨w.heap.size, 6, none⟩ = some (.int .i64 cs) := by first | (simp; done) | go_simp
  have D7 : (w.alloc (.cells #[.int .i64 x0, .int .i64 y0, .int .i64 x1, .int .i64 y1, .int .i64 rt, .int .i64 ys, .int .i64 cs, .int .i64 at4, .slice A1 z1.length c1, .slice A2 z2.length c2, .slice A3 z3.length c3, .slice A4 z4.length c4] 30)).cell? ⟨w.heap.size, 7, none⟩ = some (.int .i64 at4) := by first | (simp; done) | go_simp
  have D8 : (w.alloc (.cells #[.int .i64 x0, .int .i64 y0, .int .i64 x1, .int .i64 y1, .int .i64 rt, .int .i64 ys, .int .i64 cs, .int .i64 at4, .slice A1 z1.length c1, .slice A2 z2.length c2, .slice A3 z3.length c3, .slice A4 z4.length c4] 30)).cell? ⟨w.heap.size, 8, none⟩ = some (.slice A1 z1.length c1) := by first | (simp; done) | go_simp
  have D9 : (w.alloc (.cells #[.int .i64 x0, .int .i64 y0, .int .i64 x1, .int .i64 y1, .int .i64 rt, .int .i64 ys, .int .i64 cs, .int .i64 at4, .slice A1 z1.length c1, .slice A2 z2.length c2, .slice A3 z3.length c3, .slice A4 z4.length c4] 30)).cell? ⟨w.heap.size, 9, none⟩ = some (.slice A2 z2.length c2) := by first | (simp; done) | go_simp
  have D10 : (w.alloc (.cells #[.int .i64 x0, .int .i64 y0, .int .i64 x1, .int .i64 y1, .int .i64 rt, .int .i64 ys, .int .i64 cs, .int .i64 at4, .slice A1 z1.length c1, .slice A2 z2.length c2, .slice A3 z3.length c3, .slice A4 z4.length c4] 30)).cell? ⟨w.heap.size, 10, none⟩ = some (.slice A3 z3.length c3) := by first | (simp; done) | go_simp
  have D11 : (w.alloc (.cells #[.int .i64 x0, .int .i64 y0, .int .i64 x1, .int .i64 y1, .int .i64 rt, .int .i64 ys, .int .i64 cs, .int .i64 at4, .slice A1 z1.length c1, .slice A2 z2.length c2, .slice A3 z3.length c3, .slice A4 z4.length c4] 30)).cell? ⟨w.heap.size, 11, none⟩ = some (.slice A4 z4.length c4) := by first | (simp; done) | go_simp
  go_enter Try.func15, Try.ntmps15
  go_wp2_with fail
  generalize w.alloc (.cells #[.int .i64 x0, .int .i64 y0, .int .i64 x1, .int .i64 y1, .int .i64 rt, .int .i64 ys, .int .i64 cs, .int .i64 at4, .slice A1 z1.length c1, .slice A2 z2.length c2, .slice A3 z3.length c3, .slice A4 z4.length c4] 30) = W0 at *
  go_wp2_with fail
  refine (box_any x0 y0 x1 y1 _).mono ?_
  rintro e w1 ⟨rfl, hb1⟩
  replace D0 := cell_kept D0 hb1
  replace D1 := cell_kept D1 hb1
  replace D2 := cell_kept D2 hb1
  replace D3 := cell_kept D3 hb1
  replace D4 := cell_kept D4 hb1
  replace D5 := cell_kept D5 hb1
  replace D6 := cell_kept D6 hb1
  replace D7 := cell_kept D7 hb1
  replace D8 := cell_kept D8 hb1
  replace D9 := cell_kept D9 hb1
  replace D10 := cell_kept D10 hb1
  replace D11 := cell_kept D11 hb1
  replace hB := hB.trans (hb1.mono hB.size)
  clear hb1
  go_wp2_with fail
  refine (fair_any x0 y0 x1 y1 true (by simp [hF.out]) _).mono ?_
  rintro e w2 ⟨rfl, hb2⟩
  replace D0 := cell_kept D0 hb2
  replace D1 := cell_kept D1 hb2
  replace D2 := cell_kept D2 hb2
  replace D3 := cell_kept D3 hb2
  replace D4 := cell_kept D4 hb2
  replace D5 := cell_kept D5 hb2
  replace D6 := cell_kept D6 hb2
  replace D7 := cell_kept D7 hb2
  replace D8 := cell_kept D8 hb2
  replace D9 := cell_kept D9 hb2
  replace D10 := cell_kept D10 hb2
  replace D11 := cell_kept D11 hb2
  replace hB := hB.trans (hb2.mono hB.size)
  clear hb2
  go_wp2_with fail
  refine (nearPoint_any ys cs false (by have := hN.out; simp [this]) _).mono ?_
  rintro e w' ⟨rfl, rfl⟩
  go_wp2
  go_ret
  exact ⟨by simp, hB⟩

set_option maxRecDepth 100000 in
set_option maxHeartbeats 2000000 in
theorem fairF_2 (x0 y0 x1 y1 rt ys cs at4 : Int) (A1 A2 A3 A4 : Option Addr) (c1 c2 c3 c4 : Nat) (z1 z2 z3 z4 : List Int) (w : World) (b : Bool) (hF : Hid (Fair x0 y0 x1 y1)) (hN : Hid (Near ys ∧ Near cs)) (hb : Hid (b = true ↔ Near at4 ∧ Near 0)) :
    Calls Try.prog 15 #[.agg #[.int .i64 x0, .int .i64 y0, .int .i64 x1, .int .i64 y1, .int .i64 rt, .int .i64 ys, .int .i64 cs, .int .i64 at4, .slice A1 z1.length c1, .slice A2 z2.length c2, .slice A3 z3.length c3, .slice A4 z4.length c4]] w fun e w' => e = .returned (.bool b) ∧ Below w.heap.size w w' := by
  have hB : Below w.heap.size w (w.alloc (.cells #[.int .i64 x0, .int .i64 y0, .int .i64 x1, .int .i64 y1, .int .i64 rt, .int .i64 ys, .int .i64 cs, .int .i64 at4, .slice A1 z1.length c1, .slice A2 z2.length c2, .slice A3 z3.length c3, .slice A4 z4.length c4] 30)) := (Below.refl _ _).alloc (Nat.le_refl _) _
  have D0 : (w.alloc (.cells #[.int .i64 x0, .int .i64 y0, .int .i64 x1, .int .i64 y1, .int .i64 rt, .int .i64 ys, .int .i64 cs, .int .i64 at4, .slice A1 z1.length c1, .slice A2 z2.length c2, .slice A3 z3.length c3, .slice A4 z4.length c4] 30)).cell? ⟨w.heap.size, 0, none⟩ = some (.int .i64 x0) := by first | (simp; done) | go_simp
  have D1 : (w.alloc (.cells #[.int .i64 x0, .int .i64 y0, .int .i64 x1, .int .i64 y1, .int .i64 rt, .int .i64 ys, .int .i64 cs, .int .i64 at4, .slice A1 z1.length c1, .slice A2 z2.length c2, .slice A3 z3.length c3, .slice A4 z4.length c4] 30)).cell? ⟨w.heap.size, 1, none⟩ = some (.int .i64 y0) := by first | (simp; done) | go_simp
  have D2 : (w.alloc (.cells #[.int .i64 x0, .int .i64 y0, .int .i64 x1, .int .i64 y1, .int .i64 rt, .int .i64 ys, .int .i64 cs, .int .i64 at4, .slice A1 z1.length c1, .slice A2 z2.length c2, .slice A3 z3.length c3, .slice A4 z4.length c4] 30)).cell? ⟨w.heap.size, 2, none⟩ = some (.int .i64 x1) := by first | (simp; done) | go_simp
  have D3 : (w.alloc (.cells #[.int .i64 x0, .int .i64 y0, .int .i64 x1, .int .i64 y1, .int .i64 rt, .int .i64 ys, .int .i64 cs, .int .i64 at4, .slice A1 z1.length c1, .slice A2 z2.length c2, .slice A3 z3.length c3, .slice A4 z4.length c4] 30)).cell? ⟨w.heap.size, 3, none⟩ = some (.int .i64 y1) := by first | (simp; done) | go_simp
  have D4 : (w.alloc (.cells #[.int .i64 x0, .int .i64 y0, .int .i64 x1, .int .i64 y1, .int .i64 rt, .int .i64 ys, .int .i64 cs, .int .i64 at4, .slice A1 z1.length c1, .slice A2 z2.length c2, .slice A3 z3.length c3, .slice A4 z4.length c4] 30)).cell? ⟨w.heap.size, 4, none⟩ = some (.int .i64 rt) := by first | (simp; done) | go_simp
  have D5 : (w.alloc (.cells #[.int .i64 x0, .int .i64 y0, .int .i64 x1, .int .i64 y1, .int .i64 rt, .int .i64 ys, .int .i64 cs, .int .i64 at4, .slice A1 z1.length c1, .slice A2 z2.length c2, .slice A3 z3.length c3, .slice A4 z4.length c4] 30)).cell? ⟨w.heap.size, 5, none⟩ = some (.int .i64 ys) := by first | (simp; done) | go_simp
  have D6 : (w.alloc (.cells #[.int .i64 x0, .int .i64 y0, .int .i64 x1, .int .i64 y1, .int .i64 rt, .int .i64 ys, .int .i64 cs, .int .i64 at4, .slice A1 z1.length c1, .slice A2 z2.length c2, .slice A3 z3.length c3, .slice A4 z4.length c4] 30)).cell? ⟨w.heap.size, 6, none⟩ = some (.int .i64 cs) := by first | (simp; done) | go_simp
  have D7 : (w.alloc (.cells #[.int .i64 x0, .int .i64 y0, .int .i64 x1, .int .i64 y1, .int .i64 rt, .int .i64 ys, .int .i64 cs, .int .i64 at4, .slice A1 z1.length c1, .slice A2 z2.length c2, .slice A3 z3.length c3, .slice A4 z4.length c4] 30)).cell? ⟨w.heap.size, 7, none⟩ = some (.int .i64 at4) := by first | (simp; done) | go_simp
  have D8 : (w.alloc (.cells #[.int .i64 x0, .int .i64 y0, .int .i64 x1, .int .i64 y1, .int .i64 rt, .int .i64 ys, .int .i64 cs, .int .i64 at4, .slice A1 z1.length c1, .slice A2 z2.length c2, .slice A3 z3.length c3, .slice A4 z4.length c4] 30)).cell? ⟨w.heap.size, 8, none⟩ = some (.slice A1 z1.length c1) := by first | (simp; done) | go_simp
  have D9 : (w.alloc (.cells #[.int .i64 x0, .int .i64 y0, .int .i64 x1, .int .i64 y1, .int .i64 rt, .int .i64 ys, .int .i64 cs, .int .i64 at4, .slice A1 z1.length c1, .slice A2 z2.length c2, .slice A3 z3.length c3, .slice A4 z4.length c4] 30)).cell? ⟨w.heap.size, 9, none⟩ = some (.slice A2 z2.length c2) := by first | (simp; done) | go_simp
  have D10 : (w.alloc (.cells #[.int .i64 x0, .int .i64 y0, .int .i64 x1, .int .i64 y1, .int .i64 rt, .int .i64 ys, .int .i64 cs, .int .i64 at4, .slice A1 z1.length c1, .slice A2 z2.length c2, .slice A3 z3.length c3, .slice A4 z4.length c4] 30)).cell? ⟨w.heap.size, 10, none⟩ = some (.slice A3 z3.length c3) := by first | (simp; done) | go_simp
  have D11 : (w.alloc (.cells #[.int .i64 x0, .int .i64 y0, .int .i64 x1, .int .i64 y1, .int .i64 rt, .int .i64 ys, .int .i64 cs, .int .i64 at4, .slice A1 z1.length c1, .slice A2 z2.length c2, .slice A3 z3.length c3, .slice A4 z4.length c4] 30)).cell? ⟨w.heap.size, 11, none⟩ = some (.slice A4 z4.length c4) := by first | (simp; done) | go_simp
  go_enter Try.func15, Try.ntmps15
  go_wp2_with fail
  generalize w.alloc (.cells #[.int .i64 x0, .int .i64 y0, .int .i64 x1, .int .i64 y1, .int .i64 rt, .int .i64 ys, .int .i64 cs, .int .i64 at4, .slice A1 z1.length c1, .slice A2 z2.length c2, .slice A3 z3.length c3, .slice A4 z4.length c4] 30) = W0 at *
  go_wp2_with fail
  refine (box_any x0 y0 x1 y1 _).mono ?_
  rintro e w1 ⟨rfl, hb1⟩
  replace D0 := cell_kept D0 hb1
  replace D1 := cell_kept D1 hb1
  replace D2 := cell_kept D2 hb1
  replace D3 := cell_kept D3 hb1
  replace D4 := cell_kept D4 hb1
  replace D5 := cell_kept D5 hb1
  replace D6 := cell_kept D6 hb1
  replace D7 := cell_kept D7 hb1
  replace D8 := cell_kept D8 hb1
  replace D9 := cell_kept D9 hb1
  replace D10 := cell_kept D10 hb1
  replace D11 := cell_kept D11 hb1
  replace hB := hB.trans (hb1.mono hB.size)
  clear hb1
  go_wp2_with fail
  refine (fair_any x0 y0 x1 y1 true (by simp [hF.out]) _).mono ?_
  rintro e w2 ⟨rfl, hb2⟩
  replace D0 := cell_kept D0 hb2
  replace D1 := cell_kept D1 hb2
  replace D2 := cell_kept D2 hb2
  replace D3 := cell_kept D3 hb2
  replace D4 := cell_kept D4 hb2
  replace D5 := cell_kept D5 hb2
  replace D6 := cell_kept D6 hb2
  replace D7 := cell_kept D7 hb2
  replace D8 := cell_kept D8 hb2
  replace D9 := cell_kept D9 hb2
  replace D10 := cell_kept D10 hb2
  replace D11 := cell_kept D11 hb2
  replace hB := hB.trans (hb2.mono hB.size)
  clear hb2
  go_wp2_with fail
  refine (nearPoint_any ys cs true (by have := hN.out; simp [this]) _).mono ?_
  rintro e w' ⟨rfl, rfl⟩
  go_wp2_with fail
  refine (nearPoint_any at4 0 b hb.out _).mono ?_
  rintro e w' ⟨rfl, rfl⟩
  go_wp2
  go_ret
  exact ⟨by simp, hB⟩

theorem fairF_any (x0 y0 x1 y1 rt ys cs at4 : Int) (A1 A2 A3 A4 : Option Addr) (c1 c2 c3 c4 : Nat) (z1 z2 z3 z4 : List Int) (b : Bool) (hb : b = true ↔ FairF x0 y0 x1 y1 ys cs at4) (w : World) :
    Calls Try.prog 15 #[.agg #[.int .i64 x0, .int .i64 y0, .int .i64 x1, .int .i64 y1, .int .i64 rt, .int .i64 ys, .int .i64 cs, .int .i64 at4, .slice A1 z1.length c1, .slice A2 z2.length c2, .slice A3 z3.length c3, .slice A4 z4.length c4]] w fun e w' => e = .returned (.bool b) ∧ Below w.heap.size w w' := by
  have no : ¬ FairF x0 y0 x1 y1 ys cs at4 → b = false := fun h => by cases b with | false => rfl | true => exact absurd (hb.1 rfl) h
  by_cases hF : Fair x0 y0 x1 y1
  · by_cases hN : Near ys ∧ Near cs
    · refine fairF_2 x0 y0 x1 y1 rt ys cs at4 A1 A2 A3 A4 c1 c2 c3 c4 z1 z2 z3 z4 w b hF hN (show _ ↔ _ from hb.trans ⟨fun h => ⟨h.2.2.2, by unfold Near; omega⟩, fun h => ⟨hF, hN.1, hN.2, h.1⟩⟩)
    · rw [no (fun h => hN ⟨h.2.1, h.2.2.1⟩)]
      exact fairF_1 x0 y0 x1 y1 rt ys cs at4 A1 A2 A3 A4 c1 c2 c3 c4 z1 z2 z3 z4 w hF hN
  · rw [no (fun h => hF h.1)]
    exact fairF_0 x0 y0 x1 y1 rt ys cs at4 A1 A2 A3 A4 c1 c2 c3 c4 z1 z2 z3 z4 w hF

theorem ratio_any (n : Int) (b : Bool) (hb : b = true ↔ 0 ≤ n ∧ n ≤ 5) (w : World) :
    Calls Try.prog 12 #[.int .i64 n] w fun e w' => e = .returned (.bool b) ∧ w = w' := by
  have h : (b = true ∧ 0 ≤ n ∧ n ≤ 5) ∨ (b = false ∧ n < 0) ∨ (b = false ∧ 0 ≤ n ∧ 5 < n) := by
    by_cases h0 : 0 ≤ n ∧ n ≤ 5
    · exact Or.inl ⟨hb.2 h0, h0⟩
    · obtain rfl : b = false := by cases b with | false => rfl | true => exact absurd (hb.1 rfl) h0
      simp
      omega
  clear hb
  rcases h with ⟨rfl, h1, h2⟩ | ⟨rfl, h1⟩ | ⟨rfl, h1, h2⟩
  all_goals
    go_enter Try.func12, Try.ntmps12
    go_wp2
    go_ret
    exact ⟨by first | (simp; done) | (simp; omega), rfl⟩

theorem among_any (n : Int) (A : Option Addr) (k c : Nat) (b : Bool) (hb : b = true ↔ 0 ≤ n ∧ n < k) (w : World) :
    Calls Try.prog 35 #[.int .i64 n, .slice A k c] w fun e w' => e = .returned (.bool b) ∧ w = w' := by
  have h : (b = true ∧ 0 ≤ n ∧ n < k) ∨ (b = false ∧ n < 0) ∨ (b = false ∧ 0 ≤ n ∧ (k : Int) ≤ n) := by
    by_cases h0 : 0 ≤ n ∧ n < k
    · exact Or.inl ⟨hb.2 h0, h0⟩
    · obtain rfl : b = false := by cases b with | false => rfl | true => exact absurd (hb.1 rfl) h0
      simp
      omega
  clear hb
  rcases h with ⟨rfl, h1, h2⟩ | ⟨rfl, h1⟩ | ⟨rfl, h1, h2⟩
  all_goals
    go_enter Try.func35, Try.ntmps35
    go_wp2
    go_ret
    exact ⟨by first | (simp; done) | (simp; omega), rfl⟩

theorem step_any (rt : Int) (r0 : 0 ≤ rt) (r5 : rt ≤ 5) (w : World) :
    Calls Try.prog 43 #[.int .i64 rt] w fun e w' => e = .returned (.tuple #[.int .i64 (stW rt), .int .i64 (stH rt)]) ∧ w = w' := by
  have h := ratio_cases r0 r5
  clear r0 r5
  rcases h with rfl | rfl | rfl | rfl | rfl | rfl
  all_goals
    go_enter Try.func43, Try.ntmps43
    go_wp2
    go_ret2
    exact ⟨by simp [stW, stH], rfl⟩

set_option maxRecDepth 100000 in
set_option maxHeartbeats 2000000 in
theorem chroma_0 (x0 y0 x1 y1 ys cs at4 : Int) (A1 A2 A3 A4 : Option Addr) (c1 c2 c3 c4 : Nat) (z1 z2 z3 z4 : List Int) (x y : Int) (w : World) (n1 : 0 ≤ x0) (n2 : 0 ≤ y0) (n3 : 0 ≤ x) (n4 : 0 ≤ y) (n5 : x0 ≤ 1099511627776) (n6 : y0 ≤ 1099511627776) (n7 : x ≤ 1099511627776) (n8 : y ≤ 1099511627776) (p1 : -2305843009213693952 ≤ (y - y0) * cs) (p2 : (y - y0) * cs ≤ 2305843009213693952) :
    Calls Try.prog 30 #[.agg #[.int .i64 x0, .int .i64 y0, .int .i64 x1, .int .i64 y1, .int .i64 0, .int .i64 ys, .int .i64 cs, .int .i64 at4, .slice A1 z1.length c1, .slice A2 z2.length c2, .slice A3 z3.length c3, .slice A4 z4.length c4], .int .i64 x, .int .i64 y] w fun e w' => e = .returned (.int .i64 ((y - y0) * cs + (x - x0))) ∧ Below w.heap.size w w' := by
  have hB : Below w.heap.size w (w.alloc (.cells #[.int .i64 x0, .int .i64 y0, .int .i64 x1, .int .i64 y1, .int .i64 0, .int .i64 ys, .int .i64 cs, .int .i64 at4, .slice A1 z1.length c1, .slice A2 z2.length c2, .slice A3 z3.length c3, .slice A4 z4.length c4] 30)) := (Below.refl _ _).alloc (Nat.le_refl _) _
  have D0 : (w.alloc (.cells #[.int .i64 x0, .int .i64 y0, .int .i64 x1, .int .i64 y1, .int .i64 0, .int .i64 ys, .int .i64 cs, .int .i64 at4, .slice A1 z1.length c1, .slice A2 z2.length c2, .slice A3 z3.length c3, .slice A4 z4.length c4] 30)).cell? ⟨w.heap.size, 0, none⟩ = some (.int .i64 x0) := by first | (simp; done) | go_simp
  have D1 : (w.alloc (.cells #[.int .i64 x0, .int .i64 y0, .int .i64 x1, .int .i64 y1, .int .i64 0, .int .i64 ys, .int .i64 cs, .int .i64 at4, .slice A1 z1.length c1, .slice A2 z2.length c2, .slice A3 z3.length c3, .slice A4 z4.length c4] 30)).cell? ⟨w.heap.size, 1, none⟩ = some (.int .i64 y0) := by first | (simp; done) | go_simp
  have D2 : (w.alloc (.cells #[.int .i64 x0, .int .i64 y0, .int .i64 x1, .int .i64 y1, .int .i64 0, .int .i64 ys, .int .i64 cs, .int .i64 at4, .slice A1 z1.length c1, .slice A2 z2.length c2, .slice A3 z3.length c3, .slice A4 z4.length c4] 30)).cell? ⟨w.heap.size, 2, none⟩ = some (.int .i64 x1) := by first | (simp; done) | go_simp
  have D3 : (w.alloc (.cells #[.int .i64 x0, .int .i64 y0, .int .i64 x1, .int .i64 y1, .int .i64 0, .int .i64 ys, .int .i64 cs, .int .i64 at4, .slice A1 z1.length c1, .slice A2 z2.length c2, .slice A3 z3.length c3, .slice A4 z4.length c4] 30)).cell? ⟨w.heap.size, 3, none⟩ = some (.int .i64 y1) := by first | (simp; done) | go_simp
  have D4 : (w.alloc (.cells #[.int .i64 x0, .int .i64 y0, .int .i64 x1, .int .i64 y1, .int .i64 0, .int .i64 ys, .int .i64 cs, .int .i64 at4, .slice A1 z1.length c1, .slice A2 z2.length c2, .slice A3 z3.length c3, .slice A4 z4.length c4] 30)).cell? ⟨w.heap.size, 4, none⟩ = some (.int .i64 0) := by first | (simp; done) | go_simp
  have D5 : (w.alloc (.cells #[.int .i64 x0, .int .i64 y0, .int .i64 x1, .int .i64 y1, .int .i64 0, .int .i64 ys, .int .i64 cs, .int .i64 at4, .slice A1 z1.length c1, .slice A2 z2.length c2, .slice A3 z3.length c3, .slice A4 z4.length c4] 30)).cell? ⟨w.heap.size, 5, none⟩ = some (.int .i64 ys) := by first | (simp; done) | go_simp
  have D6 : (w.alloc (.cells #[.int .i64 x0, .int .i64 y0, .int .i64 x1, .int .i64 y1, .int .i64 0, .int .i64 ys, .int .i64 cs, .int .i64 at4, .slice A1 z1.length c1, .slice A2 z2.length c2, .slice A3 z3.length c3, .slice A4 z4.length c4] 30)).cell? ⟨w.heap.size, 6, none⟩ = some (.int .i64 cs) := by first | (simp; done) | go_simp
  have D7 : (w.alloc (.cells #[.int .i64 x0, .int .i64 y0, .int .i64 x1, .int .i64 y1, .int .i64 0, .int .i64 ys, .int .i64 cs, .int .i64 at4, .slice A1 z1.length c1, .slice A2 z2.length c2, .slice A3 z3.length c3, .slice A4 z4.length c4] 30)).cell? ⟨w.heap.size, 7, none⟩ = some (.int .i64 at4) := by first | (simp; done) | go_simp
  have D8 : (w.alloc (.cells #[.int .i64 x0, .int .i64 y0, .int .i64 x1, .int .i64 y1, .int .i64 0, .int .i64 ys, .int .i64 cs, .int .i64 at4, .slice A1 z1.length c1, .slice A2 z2.length c2, .slice A3 z3.length c3, .slice A4 z4.length c4] 30)).cell? ⟨w.heap.size, 8, none⟩ = some (.slice A1 z1.length c1) := by first | (simp; done) | go_simp
  have D9 : (w.alloc (.cells #[.int .i64 x0, .int .i64 y0, .int .i64 x1, .int .i64 y1, .int .i64 0, .int .i64 ys, .int .i64 cs, .int .i64 at4, .slice A1 z1.length c1, .slice A2 z2.length c2, .slice A3 z3.length c3, .slice A4 z4.length c4] 30)).cell? ⟨w.heap.size, 9, none⟩ = some (.slice A2 z2.length c2) := by first | (simp; done) | go_simp
  have D10 : (w.alloc (.cells #[.int .i64 x0, .int .i64 y0, .int .i64 x1, .int .i64 y1, .int .i64 0, .int .i64 ys, .int .i64 cs, .int .i64 at4, .slice A1 z1.length c1, .slice A2 z2.length c2, .slice A3 z3.length c3, .slice A4 z4.length c4] 30)).cell? ⟨w.heap.size, 10, none⟩ = some (.slice A3 z3.length c3) := by first | (simp; done) | go_simp
  have D11 : (w.alloc (.cells #[.int .i64 x0, .int .i64 y0, .int .i64 x1, .int .i64 y1, .int .i64 0, .int .i64 ys, .int .i64 cs, .int .i64 at4, .slice A1 z1.length c1, .slice A2 z2.length c2, .slice A3 z3.length c3, .slice A4 z4.length c4] 30)).cell? ⟨w.heap.size, 11, none⟩ = some (.slice A4 z4.length c4) := by first | (simp; done) | go_simp
  go_enter Try.func30, Try.ntmps30
  go_wp2_with fail
  generalize w.alloc (.cells #[.int .i64 x0, .int .i64 y0, .int .i64 x1, .int .i64 y1, .int .i64 0, .int .i64 ys, .int .i64 cs, .int .i64 at4, .slice A1 z1.length c1, .slice A2 z2.length c2, .slice A3 z3.length c3, .slice A4 z4.length c4] 30) = W0 at *
  go_wp2_with fail
  refine (step_any 0 (by omega) (by omega) _).mono ?_
  rintro e w' ⟨rfl, rfl⟩
  simp only [show stW 0 = 1 from rfl, show stH 0 = 1 from rfl]
  go_wp2
  go_quiet (fail)
  go_wp2
  go_ret
  exact ⟨by first | (simp; done) | (simp; omega), below_drewN hB _⟩

set_option maxRecDepth 100000 in
set_option maxHeartbeats 2000000 in
theorem chroma_1 (x0 y0 x1 y1 ys cs at4 : Int) (A1 A2 A3 A4 : Option Addr) (c1 c2 c3 c4 : Nat) (z1 z2 z3 z4 : List Int) (x y : Int) (w : World) (n1 : 0 ≤ x0) (n2 : 0 ≤ y0) (n3 : 0 ≤ x) (n4 : 0 ≤ y) (n5 : x0 ≤ 1099511627776) (n6 : y0 ≤ 1099511627776) (n7 : x ≤ 1099511627776) (n8 : y ≤ 1099511627776) (p1 : -2305843009213693952 ≤ (y - y0) * cs) (p2 : (y - y0) * cs ≤ 2305843009213693952) :
    Calls Try.prog 30 #[.agg #[.int .i64 x0, .int .i64 y0, .int .i64 x1, .int .i64 y1, .int .i64 1, .int .i64 ys, .int .i64 cs, .int .i64 at4, .slice A1 z1.length c1, .slice A2 z2.length c2, .slice A3 z3.length c3, .slice A4 z4.length c4], .int .i64 x, .int .i64 y] w fun e w' => e = .returned (.int .i64 ((y - y0) * cs + (x / 2 - x0 / 2))) ∧ Below w.heap.size w w' := by
  have hB : Below w.heap.size w (w.alloc (.cells #[.int .i64 x0, .int .i64 y0, .int .i64 x1, .int .i64 y1, .int .i64 1, .int .i64 ys, .int .i64 cs, .int .i64 at4, .slice A1 z1.length c1, .slice A2 z2.length c2, .slice A3 z3.length c3, .slice A4 z4.length c4] 30)) := (Below.refl _ _).alloc (Nat.le_refl _) _
  have D0 : (w.alloc (.cells #[.int .i64 x0, .int .i64 y0, .int .i64 x1, .int .i64 y1, .int .i64 1, .int .i64 ys, .int .i64 cs, .int .i64 at4, .slice A1 z1.length c1, .slice A2 z2.length c2, .slice A3 z3.length c3, .slice A4 z4.length c4] 30)).cell? ⟨w.heap.size, 0, none⟩ = some (.int .i64 x0) := by first | (simp; done) | go_simp
  have D1 : (w.alloc (.cells #[.int .i64 x0, .int .i64 y0, .int .i64 x1, .int .i64 y1, .int .i64 1, .int .i64 ys, .int .i64 cs, .int .i64 at4, .slice A1 z1.length c1, .slice A2 z2.length c2, .slice A3 z3.length c3, .slice A4 z4.length c4] 30)).cell? ⟨w.heap.size, 1, none⟩ = some (.int .i64 y0) := by first | (simp; done) | go_simp
  have D2 : (w.alloc (.cells #[.int .i64 x0, .int .i64 y0, .int .i64 x1, .int .i64 y1, .int .i64 1, .int .i64 ys, .int .i64 cs, .int .i64 at4, .slice A1 z1.length c1, .slice A2 z2.length c2, .slice A3 z3.length c3, .slice A4 z4.length c4] 30)).cell? ⟨w.heap.size, 2, none⟩ = some (.int .i64 x1) := by first | (simp; done) | go_simp
  have D3 : (w.alloc (.cells #[.int .i64 x0, .int .i64 y0, .int .i64 x1, .int .i64 y1, .int .i64 1, .int .i64 ys, .int .i64 cs, .int .i64 at4, .slice A1 z1.length c1, .slice A2 z2.length c2, .slice A3 z3.length c3, .slice A4 z4.length c4] 30)).cell? ⟨w.heap.size, 3, none⟩ = some (.int .i64 y1) := by first | (simp; done) | go_simp
  have D4 : (w.alloc (.cells #[.int .i64 x0, .int .i64 y0, .int .i64 x1, .int .i64 y1, .int .i64 1, .int .i64 ys, .int .i64 cs, .int .i64 at4, .slice A1 z1.length c1, .slice A2 z2.length c2, .slice A3 z3.length c3, .slice A4 z4.length c4] 30)).cell? ⟨w.heap.size, 4, none⟩ = some (.int .i64 1) := by first | (simp; done) | go_simp
  have D5 : (w.alloc (.cells #[.int .i64 x0, .int .i64 y0, .int .i64 x1, .int .i64 y1, .int .i64 1, .int .i64 ys, .int .i64 cs, .int .i64 at4, .slice A1 z1.length c1, .slice A2 z2.length c2, .slice A3 z3.length c3, .slice A4 z4.length c4] 30)).cell? ⟨w.heap.size, 5, none⟩ = some (.int .i64 ys) := by first | (simp; done) | go_simp
  have D6 : (w.alloc (.cells #[.int .i64 x0, .int .i64 y0, .int .i64 x1, .int .i64 y1, .int .i64 1, .int .i64 ys, .int .i64 cs, .int .i64 at4, .slice A1 z1.length c1, .slice A2 z2.length c2, .slice A3 z3.length c3, .slice A4 z4.length c4] 30)).cell? ⟨w.heap.size, 6, none⟩ = some (.int .i64 cs) := by first | (simp; done) | go_simp
  have D7 : (w.alloc (.cells #[.int .i64 x0, .int .i64 y0, .int .i64 x1, .int .i64 y1, .int .i64 1, .int .i64 ys, .int .i64 cs, .int .i64 at4, .slice A1 z1.length c1, .slice A2 z2.length c2, .slice A3 z3.length c3, .slice A4 z4.length c4] 30)).cell? ⟨w.heap.size, 7, none⟩ = some (.int .i64 at4) := by first | (simp; done) | go_simp
  have D8 : (w.alloc (.cells #[.int .i64 x0, .int .i64 y0, .int .i64 x1, .int .i64 y1, .int .i64 1, .int .i64 ys, .int .i64 cs, .int .i64 at4, .slice A1 z1.length c1, .slice A2 z2.length c2, .slice A3 z3.length c3, .slice A4 z4.length c4] 30)).cell? ⟨w.heap.size, 8, none⟩ = some (.slice A1 z1.length c1) := by first | (simp; done) | go_simp
  have D9 : (w.alloc (.cells #[.int .i64 x0, .int .i64 y0, .int .i64 x1, .int .i64 y1, .int .i64 1, .int .i64 ys, .int .i64 cs, .int .i64 at4, .slice A1 z1.length c1, .slice A2 z2.length c2, .slice A3 z3.length c3, .slice A4 z4.length c4] 30)).cell? ⟨w.heap.size, 9, none⟩ = some (.slice A2 z2.length c2) := by first | (simp; done) | go_simp
  have D10 : (w.alloc (.cells #[.int .i64 x0, .int .i64 y0, .int .i64 x1, .int .i64 y1, .int .i64 1, .int .i64 ys, .int .i64 cs, .int .i64 at4, .slice A1 z1.length c1, .slice A2 z2.length c2, .slice A3 z3.length c3, .slice A4 z4.length c4] 30)).cell? ⟨w.heap.size, 10, none⟩ = some (.slice A3 z3.length c3) := by first | (simp; done) | go_simp
  have D11 : (w.alloc (.cells #[.int .i64 x0, .int .i64 y0, .int .i64 x1, .int .i64 y1, .int .i64 1, .int .i64 ys, .int .i64 cs, .int .i64 at4, .slice A1 z1.length c1, .slice A2 z2.length c2, .slice A3 z3.length c3, .slice A4 z4.length c4] 30)).cell? ⟨w.heap.size, 11, none⟩ = some (.slice A4 z4.length c4) := by first | (simp; done) | go_simp
  go_enter Try.func30, Try.ntmps30
  go_wp2_with fail
  generalize w.alloc (.cells #[.int .i64 x0, .int .i64 y0, .int .i64 x1, .int .i64 y1, .int .i64 1, .int .i64 ys, .int .i64 cs, .int .i64 at4, .slice A1 z1.length c1, .slice A2 z2.length c2, .slice A3 z3.length c3, .slice A4 z4.length c4] 30) = W0 at *
  go_wp2_with fail
  refine (step_any 1 (by omega) (by omega) _).mono ?_
  rintro e w' ⟨rfl, rfl⟩
  simp only [show stW 1 = 2 from rfl, show stH 1 = 1 from rfl]
  go_wp2
  go_quiet (fail)
  go_wp2
  go_ret
  exact ⟨by first | (simp; done) | (simp; omega), below_drewN hB _⟩

set_option maxRecDepth 100000 in
set_option maxHeartbeats 2000000 in
theorem chroma_2 (x0 y0 x1 y1 ys cs at4 : Int) (A1 A2 A3 A4 : Option Addr) (c1 c2 c3 c4 : Nat) (z1 z2 z3 z4 : List Int) (x y : Int) (w : World) (n1 : 0 ≤ x0) (n2 : 0 ≤ y0) (n3 : 0 ≤ x) (n4 : 0 ≤ y) (n5 : x0 ≤ 1099511627776) (n6 : y0 ≤ 1099511627776) (n7 : x ≤ 1099511627776) (n8 : y ≤ 1099511627776) (p1 : -2305843009213693952 ≤ (y / 2 - y0 / 2) * cs) (p2 : (y / 2 - y0 / 2) * cs ≤ 2305843009213693952) :
    Calls Try.prog 30 #[.agg #[.int .i64 x0, .int .i64 y0, .int .i64 x1, .int .i64 y1, .int .i64 2, .int .i64 ys, .int .i64 cs, .int .i64 at4, .slice A1 z1.length c1, .slice A2 z2.length c2, .slice A3 z3.length c3, .slice A4 z4.length c4], .int .i64 x, .int .i64 y] w fun e w' => e = .returned (.int .i64 ((y / 2 - y0 / 2) * cs + (x / 2 - x0 / 2))) ∧ Below w.heap.size w w' := by
  have hB : Below w.heap.size w (w.alloc (.cells #[.int .i64 x0, .int .i64 y0, .int .i64 x1, .int .i64 y1, .int .i64 2, .int .i64 ys, .int .i64 cs, .int .i64 at4, .slice A1 z1.length c1, .slice A2 z2.length c2, .slice A3 z3.length c3, .slice A4 z4.length c4] 30)) := (Below.refl _ _).alloc (Nat.le_refl _) _
  have D0 : (w.alloc (.cells #[.int .i64 x0, .int .i64 y0, .int .i64 x1, .int .i64 y1, .int .i64 2, .int .i64 ys, .int .i64 cs, .int .i64 at4, .slice A1 z1.length c1, .slice A2 z2.length c2, .slice A3 z3.length c3, .slice A4 z4.length c4] 30)).cell? ⟨w.heap.size, 0, none⟩ = some (.int .i64 x0) := by first | (simp; done) | go_simp
  have D1 : (w.alloc (.cells #[.int .i64 x0, .int .i64 y0, .int .i64 x1, .int .i64 y1, .int .i64 2, .int .i64 ys, .int .i64 cs, .int .i64 at4, .slice A1 z1.length c1, .slice A2 z2.length c2, .slice A3 z3.length c3, .slice A4 z4.length c4] 30)).cell? ⟨w.heap.size, 1, none⟩ = some (.int .i64 y0) := by first | (simp; done) | go_simp
  have D2 : (w.alloc (.cells #[.int .i64 x0, .int .i64 y0, .int .i64 x1, .int .i64 y1, .int .i64 2, .int .i64 ys, .int .i64 cs, .int .i64 at4, .slice A1 z1.length c1, .slice A2 z2.length c2, .slice A3 z3.length c3, .slice A4 z4.length c4] 30)).cell? ⟨w.heap.size, 2, none⟩ = some (.int .i64 x1) := by first | (simp; done) | go_simp
  have D3 : (w.alloc (.cells #[.int .i64 x0, .int .i64 y0, .int .i64 x1, .int .i64 y1, .int .i64 2, .int .i64 ys, .int .i64 cs, .int .i64 at4, .slice A1 z1.length c1, .slice A2 z2.length c2, .slice A3 z3.length c3, .slice A4 z4.length c4] 30)).cell? ⟨w.heap.size, 3, none⟩ = some (.int .i64 y1) := by first | (simp; done) | go_simp
  have D4 : (w.alloc (.cells #[.int .i64 x0, .int .i64 y0, .int .i64 x1, .int .i64 y1, .int .i64 2, .int .i64 ys, .int .i64 cs, .int .i64 at4, .slice A1 z1.length c1, .slice A2 z2.length c2, .slice A3 z3.length c3, .slice A4 z4.length c4] 30)).cell? ⟨w.heap.size, 4, none⟩ = some (.int .i64 2) := by first | (simp; done) | go_simp
  have D5 : (w.alloc (.cells #[.int .i64 x0, .int .i64 y0, .int .i64 x1, .int .i64 y1, .int .i64 2, .int .i64 ys, .int .i64 cs, .int .i64 at4, .slice A1 z1.length c1, .slice A2 z2.length c2, .slice A3 z3.length c3, .slice A4 z4.length c4] 30)).cell? ⟨w.heap.size, 5, none⟩ = some (.int .i64 ys) := by first | (simp; done) | go_simp
  have D6 : (w.alloc (.cells #[.int .i64 x0, .int .i64 y0, .int .i64 x1, .int .i64 y1, .int .i64 2, .int .i64 ys, .int .i64 cs, .int .i64 at4, .slice A1 z1.length c1, .slice A2 z2.length c2, .slice A3 z3.length c3, .slice A4 z4.length c4] 30)).cell? ⟨w.heap.size, 6, none⟩ = some (.int .i64 cs) := by first | (simp; done) | go_simp
  have D7 : (w.alloc (.cells #[.int .i64 x0, .int .i64 y0, .int .i64 x1, .int .i64 y1, .int .i64 2, .int .i64 ys, .int .i64 cs, .int .i64 at4, .slice A1 z1.length c1, .slice A2 z2.length c2, .slice A3 z3.length c3, .slice A4 z4.length c4] 30)).cell? ⟨w.heap.size, 7, none⟩ = some (.int .i64 at4) := by first | (simp; done) | go_simp
  have D8 : (w.alloc (.cells #[.int .i64 x0, .int .i64 y0, .int .i64 x1, .int .i64 y1, .int .i64 2, .int .i64 ys, .int .i64 cs, .int .i64 at4, .slice A1 z1.length c1, .slice A2 z2.length c2, .slice A3 z3.length c3, .slice A4 z4.length c4] 30)).cell? ⟨w.heap.size, 8, none⟩ = some (.slice A1 z1.length c1) := by first | (simp; done) | go_simp
  have D9 : (w.alloc (.cells #[.int .i64 x0, .int .i64 y0, .int .i64 x1, .int .i64 y1, .int .i64 2, .int .i64 ys, .int .i64 cs, .int .i64 at4, .slice A1 z1.length c1, .slice A2 z2.length c2, .slice A3 z3.length c3, .slice A4 z4.length c4] 30)).cell? ⟨w.heap.size, 9, none⟩ = some (.slice A2 z2.length c2) := by first | (simp; done) | go_simp
  have D10 : (w.alloc (.cells #[.int .i64 x0, .int .i64 y0, .int .i64 x1, .int .i64 y1, .int .i64 2, .int .i64 ys, .int .i64 cs, .int .i64 at4, .slice A1 z1.length c1, .slice A2 z2.length c2, .slice A3 z3.length c3, .slice A4 z4.length c4] 30)).cell? ⟨w.heap.size, 10, none⟩ = some (.slice A3 z3.length c3) := by first | (simp; done) | go_simp
  have D11 : (w.alloc (.cells #[.int .i64 x0, .int .i64 y0, .int .i64 x1, .int .i64 y1, .int .i64 2, .int .i64 ys, .int .i64 cs, .int .i64 at4, .slice A1 z1.length c1, .slice A2 z2.length c2, .slice A3 z3.length c3, .slice A4 z4.length c4] 30)).cell? ⟨w.heap.size, 11, none⟩ = some (.slice A4 z4.length c4) := by first | (simp; done) | go_simp
  go_enter Try.func30, Try.ntmps30
  go_wp2_with fail
  generalize w.alloc (.cells #[.int .i64 x0, .int .i64 y0, .int .i64 x1, .int .i64 y1, .int .i64 2, .int .i64 ys, .int .i64 cs, .int .i64 at4, .slice A1 z1.length c1, .slice A2 z2.length c2, .slice A3 z3.length c3, .slice A4 z4.length c4] 30) = W0 at *
  go_wp2_with fail
  refine (step_any 2 (by omega) (by omega) _).mono ?_
  rintro e w' ⟨rfl, rfl⟩
  simp only [show stW 2 = 2 from rfl, show stH 2 = 2 from rfl]
  go_wp2
  go_quiet (fail)
  go_wp2
  go_ret
  exact ⟨by first | (simp; done) | (simp; omega), below_drewN hB _⟩

set_option maxRecDepth 100000 in
set_option maxHeartbeats 2000000 in
theorem chroma_3 (x0 y0 x1 y1 ys cs at4 : Int) (A1 A2 A3 A4 : Option Addr) (c1 c2 c3 c4 : Nat) (z1 z2 z3 z4 : List Int) (x y : Int) (w : World) (n1 : 0 ≤ x0) (n2 : 0 ≤ y0) (n3 : 0 ≤ x) (n4 : 0 ≤ y) (n5 : x0 ≤ 1099511627776) (n6 : y0 ≤ 1099511627776) (n7 : x ≤ 1099511627776) (n8 : y ≤ 1099511627776) (p1 : -2305843009213693952 ≤ (y / 2 - y0 / 2) * cs) (p2 : (y / 2 - y0 / 2) * cs ≤ 2305843009213693952) :
    Calls Try.prog 30 #[.agg #[.int .i64 x0, .int .i64 y0, .int .i64 x1, .int .i64 y1, .int .i64 3, .int .i64 ys, .int .i64 cs, .int .i64 at4, .slice A1 z1.length c1, .slice A2 z2.length c2, .slice A3 z3.length c3, .slice A4 z4.length c4], .int .i64 x, .int .i64 y] w fun e w' => e = .returned (.int .i64 ((y / 2 - y0 / 2) * cs + (x - x0))) ∧ Below w.heap.size w w' := by
  have hB : Below w.heap.size w (w.alloc (.cells #[.int .i64 x0, .int .i64 y0, .int .i64 x1, .int .i64 y1, .int .i64 3, .int .i64 ys, .int .i64 cs, .int .i64 at4, .slice A1 z1.length c1, .slice A2 z2.length c2, .slice A3 z3.length c3, .slice A4 z4.length c4] 30)) := (Below.refl _ _).alloc (Nat.le_refl _) _
  have D0 : (w.alloc (.cells #[.int .i64 x0, .int .i64 y0, .int .i64 x1, .int .i64 y1, .int .i64 3, .int .i64 ys, .int .i64 cs, .int .i64 at4, .slice A1 z1.length c1, .slice A2 z2.length c2, .slice A3 z3.length c3, .slice A4 z4.length c4] 30)).cell? ⟨w.heap.size, 0, none⟩ = some (.int .i64 x0) := by first | (simp; done) | go_simp
  have D1 : (w.alloc (.cells #[.int .i64 x0, .int .i64 y0, .int .i64 x1, .int .i64 y1, .int .i64 3, .int .i64 ys, .int .i64 cs, .int .i64 at4, .slice A1 z1.length c1, .slice A2 z2.length c2, .slice A3 z3.length c3, .slice A4 z4.length c4] 30)).cell? ⟨w.heap.size, 1, none⟩ = some (.int .i64 y0) := by first | (simp; done) | go_simp
  have D2 : (w.alloc (.cells #[.int .i64 x0, .int .i64 y0, .int .i64 x1, .int .i64 y1, .int .i64 3, .int .i64 ys, .int .i64 cs, .int .i64 at4, .slice A1 z1.length c1, .slice A2 z2.length c2, .slice A3 z3.length c3, .slice A4 z4.length c4] 30)).cell? ⟨w.heap.size, 2, none⟩ = some (.int .i64 x1) := by first | (simp; done) | go_simp
  have D3 : (w.alloc (.cells #[.int .i64 x0, .int .i64 y0, .int .i64 x1, .int .i64 y1, .int .i64 3, .int .i64 ys, .int .i64 cs, .int .i64 at4, .slice A1 z1.length c1, .slice A2 z2.length c2, .slice A3 z3.length c3, .slice A4 z4.length c4] 30)).cell? ⟨w.heap.size, 3, none⟩ = some (.int .i64 y1) := by first | (simp; done) | go_simp
  have D4 : (w.alloc (.cells #[.int .i64 x0, .int .i64 y0, .int .i64 x1, .int .i64 y1, .int .i64 3, .int .i64 ys, .int .i64 cs, .int .i64 at4, .slice A1 z1.length c1, .slice A2 z2.length c2, .slice A3 z3.length c3, .slice A4 z4.length c4] 30)).cell? ⟨w.heap.size, 4, none⟩ = some (.int .i64 3) := by first | (simp; done) | go_simp
  have D5 : (w.alloc (.cells #[.int .i64 x0, .int .i64 y0, .int .i64 x1, .int .i64 y1, .int .i64 3, .int .i64 ys, .int .i64 cs, .int .i64 at4, .slice A1 z1.length c1, .slice A2 z2.length c2, .slice A3 z3.length c3, .slice A4 z4.length c4] 30)).cell? ⟨w.heap.size, 5, none⟩ = some (.int .i64 ys) := by first | (simp; done) | go_simp
  have D6 : (w.alloc (.cells #[.int .i64 x0, .int .i64 y0, .int .i64 x1, .int .i64 y1, .int .i64 3, .int .i64 ys, .int .i64 cs, .int .i64 at4, .slice A1 z1.length c1, .slice A2 z2.length c2, .slice A3 z3.length c3, .slice A4 z4.length c4] 30)).cell? ⟨w.heap.size, 6, none⟩ = some (.int .i64 cs) := by first | (simp; done) | go_simp
  have D7 : (w.alloc (.cells #[.int .i64 x0, .int .i64 y0, .int .i64 x1, .int .i64 y1, .int .i64 3, .int .i64 ys, .int .i64 cs, .int .i64 at4, .slice A1 z1.length c1, .slice A2 z2.length c2, .slice A3 z3.length c3, .slice A4 z4.length c4] 30)).cell? ⟨w.heap.size, 7, none⟩ = some (.int .i64 at4) := by first | (simp; done) | go_simp
  have D8 : (w.alloc (.cells #[.int .i64 x0, .int .i64 y0, .int .i64 x1, .int .i64 y1, .int .i64 3, .int .i64 ys, .int .i64 cs, .int .i64 at4, .slice A1 z1.length c1, .slice A2 z2.length c2, .slice A3 z3.length c3, .slice A4 z4.length c4] 30)).cell? ⟨w.heap.size, 8, none⟩ = some (.slice A1 z1.length c1) := by first | (simp; done) | go_simp
  have D9 : (w.alloc (.cells #[.int .i64 x0, .int .i64 y0, .int .i64 x1, .int .i64 y1, .int .i64 3, .int .i64 ys, .int .i64 cs, .int .i64 at4, .slice A1 z1.length c1, .slice A2 z2.length c2, .slice A3 z3.length c3, .slice A4 z4.length c4] 30)).cell? ⟨w.heap.size, 9, none⟩ = some (.slice A2 z2.length c2) := by first | (simp; done) | go_simp
  have D10 : (w.alloc (.cells #[.int .i64 x0, .int .i64 y0, .int .i64 x1, .int .i64 y1, .int .i64 3, .int .i64 ys, .int .i64 cs, .int .i64 at4, .slice A1 z1.length c1, .slice A2 z2.length c2, .slice A3 z3.length c3, .slice A4 z4.length c4] 30)).cell? ⟨w.heap.size, 10, none⟩ = some (.slice A3 z3.length c3) := by first | (simp; done) | go_simp
  have D11 : (w.alloc (.cells #[.int .i64 x0, .int .i64 y0, .int .i64 x1, .int .i64 y1, .int .i64 3, .int .i64 ys, .int .i64 cs, .int .i64 at4, .slice A1 z1.length c1, .slice A2 z2.length c2, .slice A3 z3.length c3, .slice A4 z4.length c4] 30)).cell? ⟨w.heap.size, 11, none⟩ = some (.slice A4 z4.length c4) := by first | (simp; done) | go_simp
  go_enter Try.func30, Try.ntmps30
  go_wp2_with fail
  generalize w.alloc (.cells #[.int .i64 x0, .int .i64 y0, .int .i64 x1, .int .i64 y1, .int .i64 3, .int .i64 ys, .int .i64 cs, .int .i64 at4, .slice A1 z1.length c1, .slice A2 z2.length c2, .slice A3 z3.length c3, .slice A4 z4.length c4] 30) = W0 at *
  go_wp2_with fail
  refine (step_any 3 (by omega) (by omega) _).mono ?_
  rintro e w' ⟨rfl, rfl⟩
  simp only [show stW 3 = 1 from rfl, show stH 3 = 2 from rfl]
  go_wp2
  go_quiet (fail)
  go_wp2
  go_ret
  exact ⟨by first | (simp; done) | (simp; omega), below_drewN hB _⟩

set_option maxRecDepth 100000 in
set_option maxHeartbeats 2000000 in
theorem chroma_4 (x0 y0 x1 y1 ys cs at4 : Int) (A1 A2 A3 A4 : Option Addr) (c1 c2 c3 c4 : Nat) (z1 z2 z3 z4 : List Int) (x y : Int) (w : World) (n1 : 0 ≤ x0) (n2 : 0 ≤ y0) (n3 : 0 ≤ x) (n4 : 0 ≤ y) (n5 : x0 ≤ 1099511627776) (n6 : y0 ≤ 1099511627776) (n7 : x ≤ 1099511627776) (n8 : y ≤ 1099511627776) (p1 : -2305843009213693952 ≤ (y - y0) * cs) (p2 : (y - y0) * cs ≤ 2305843009213693952) :
    Calls Try.prog 30 #[.agg #[.int .i64 x0, .int .i64 y0, .int .i64 x1, .int .i64 y1, .int .i64 4, .int .i64 ys, .int .i64 cs, .int .i64 at4, .slice A1 z1.length c1, .slice A2 z2.length c2, .slice A3 z3.length c3, .slice A4 z4.length c4], .int .i64 x, .int .i64 y] w fun e w' => e = .returned (.int .i64 ((y - y0) * cs + (x / 4 - x0 / 4))) ∧ Below w.heap.size w w' := by
  have hB : Below w.heap.size w (w.alloc (.cells #[.int .i64 x0, .int .i64 y0, .int .i64 x1, .int .i64 y1, .int .i64 4, .int .i64 ys, .int .i64 cs, .int .i64 at4, .slice A1 z1.length c1, .slice A2 z2.length c2, .slice A3 z3.length c3, .slice A4 z4.length c4] 30)) := (Below.refl _ _).alloc (Nat.le_refl _) _
  have D0 : (w.alloc (.cells #[.int .i64 x0, .int .i64 y0, .int .i64 x1, .int .i64 y1, .int .i64 4, .int .i64 ys, .int .i64 cs, .int .i64 at4, .slice A1 z1.length c1, .slice A2 z2.length c2, .slice A3 z3.length c3, .slice A4 z4.length c4] 30)).cell? ⟨w.heap.size, 0, none⟩ = some (.int .i64 x0) := by first | (simp; done) | go_simp
  have D1 : (w.alloc (.cells #[.int .i64 x0, .int .i64 y0, .int .i64 x1, .int .i64 y1, .int .i64 4, .int .i64 ys, .int .i64 cs, .int .i64 at4, .slice A1 z1.length c1, .slice A2 z2.length c2, .slice A3 z3.length c3, .slice A4 z4.length c4] 30)).cell? ⟨w.heap.size, 1, none⟩ = some (.int .i64 y0) := by first | (simp; done) | go_simp
  have D2 : (w.alloc (.cells #[.int .i64 x0, .int .i64 y0, .int .i64 x1, .int .i64 y1, .int .i64 4, .int .i64 ys, .int .i64 cs, .int .i64 at4, .slice A1 z1.length c1, .slice A2 z2.length c2, .slice A3 z3.length c3, .slice A4 z4.length c4] 30)).cell? ⟨w.heap.size, 2, none⟩ = some (.int .i64 x1) := by first | (simp; done) | go_simp
  have D3 : (w.alloc (.cells #[.int .i64 x0, .int .i64 y0, .int .i64 x1, .int .i64 y1, .int .i64 4, .int .i64 ys, .int .i64 cs, .int .i64 at4, .slice A1 z1.length c1, .slice A2 z2.length c2, .slice A3 z3.length c3, .slice A4 z4.length c4] 30)).cell? ⟨w.heap.size, 3, none⟩ = some (.int .i64 y1) := by first | (simp; done) | go_simp
  have D4 : (w.alloc (.cells #[.int .i64 x0, .int .i64 y0, .int .i64 x1, .int .i64 y1, .int .i64 4, .int .i64 ys, .int .i64 cs, .int .i64 at4, .slice A1 z1.length c1, .slice A2 z2.length c2, .slice A3 z3.length c3, .slice A4 z4.length c4] 30)).cell? ⟨w.heap.size, 4, none⟩ = some (.int .i64 4) := by first | (simp; done) | go_simp
  have D5 : (w.alloc (.cells #[.int .i64 x0, .int .i64 y0, .int .i64 x1, .int .i64 y1, .int .i64 4, .int .i64 ys, .int .i64 cs, .int .i64 at4, .slice A1 z1.length c1, .slice A2 z2.length c2, .slice A3 z3.length c3, .slice A4 z4.length c4] 30)).cell? ⟨w.heap.size, 5, none⟩ = some (.int .i64 ys) := by first | (simp; done) | go_simp
  have D6 : (w.alloc (.cells #[.int .i64 x0, .int .i64 y0, .int .i64 x1, .int .i64 y1, .int .i64 4, .int .i64 ys, .int .i64 cs, .int .i64 at4, .slice A1 z1.length c1, .slice A2 z2.length c2, .slice A3 z3.length c3, .slice A4 z4.length c4] 30)).cell? ⟨w.heap.size, 6, none⟩ = some (.int .i64 cs) := by first | (simp; done) | go_simp
  have D7 : (w.alloc (.cells #[.int .i64 x0, .int .i64 y0, .int .i64 x1, .int .i64 y1, .int .i64 4, .int .i64 ys, .int .i64 cs, .int .i64 at4, .slice A1 z1.length c1, .slice A2 z2.length c2, .slice A3 z3.length c3, .slice A4 z4.length c4] 30)).cell? ⟨w.heap.size, 7, none⟩ = some (.int .i64 at4) := by first | (simp; done) | go_simp
  have D8 : (w.alloc (.cells #[.int .i64 x0, .int .i64 y0, .int .i64 x1, .int .i64 y1, .int .i64 4, .int .i64 ys, .int .i64 cs, .int .i64 at4, .slice A1 z1.length c1, .slice A2 z2.length c2, .slice A3 z3.length c3, .slice A4 z4.length c4] 30)).cell? ⟨w.heap.size, 8, none⟩ = some (.slice A1 z1.length c1) := by first | (simp; done) | go_simp
  have D9 : (w.alloc (.cells #[.int .i64 x0, .int .i64 y0, .int .i64 x1, .int .i64 y1, .int .i64 4, .int .i64 ys, .int .i64 cs, .int .i64 at4, .slice A1 z1.length c1, .slice A2 z2.length c2, .slice A3 z3.length c3, .slice A4 z4.length c4] 30)).cell? ⟨w.heap.size, 9, none⟩ = some (.slice A2 z2.length c2) := by first | (simp; done) | go_simp
  have D10 : (w.alloc (.cells #[.int .i64 x0, .int .i64 y0, .int .i64 x1, .int .i64 y1, .int .i64 4, .int .i64 ys, .int .i64 cs, .int .i64 at4, .slice A1 z1.length c1, .slice A2 z2.length c2, .slice A3 z3.length c3, .slice A4 z4.length c4] 30)).cell? ⟨w.heap.size, 10, none⟩ = some (.slice A3 z3.length c3) := by first | (simp; done) | go_simp
  have D11 : (w.alloc (.cells #[.int .i64 x0, .int .i64 y0, .int .i64 x1, .int .i64 y1, .int .i64 4, .int .i64 ys, .int .i64 cs, .int .i64 at4, .slice A1 z1.length c1, .slice A2 z2.length c2, .slice A3 z3.length c3, .slice A4 z4.length c4] 30)).cell? ⟨w.heap.size, 11, none⟩ = some (.slice A4 z4.length c4) := by first | (simp; done) | go_simp
  go_enter Try.func30, Try.ntmps30
  go_wp2_with fail
  generalize w.alloc (.cells #[.int .i64 x0, .int .i64 y0, .int .i64 x1, .int .i64 y1, .int .i64 4, .int .i64 ys, .int .i64 cs, .int .i64 at4, .slice A1 z1.length c1, .slice A2 z2.length c2, .slice A3 z3.length c3, .slice A4 z4.length c4] 30) = W0 at *
  go_wp2_with fail
  refine (step_any 4 (by omega) (by omega) _).mono ?_
  rintro e w' ⟨rfl, rfl⟩
  simp only [show stW 4 = 4 from rfl, show stH 4 = 1 from rfl]
  go_wp2
  go_quiet (fail)
  go_wp2
  go_ret
  exact ⟨by first | (simp; done) | (simp; omega), below_drewN hB _⟩

set_option maxRecDepth 100000 in
set_option maxHeartbeats 2000000 in
theorem chroma_5 (x0 y0 x1 y1 ys cs at4 : Int) (A1 A2 A3 A4 : Option Addr) (c1 c2 c3 c4 : Nat) (z1 z2 z3 z4 : List Int) (x y : Int) (w : World) (n1 : 0 ≤ x0) (n2 : 0 ≤ y0) (n3 : 0 ≤ x) (n4 : 0 ≤ y) (n5 : x0 ≤ 1099511627776) (n6 : y0 ≤ 1099511627776) (n7 : x ≤ 1099511627776) (n8 : y ≤ 1099511627776) (p1 : -2305843009213693952 ≤ (y / 2 - y0 / 2) * cs) (p2 : (y / 2 - y0 / 2) * cs ≤ 2305843009213693952) :
    Calls Try.prog 30 #[.agg #[.int .i64 x0, .int .i64 y0, .int .i64 x1, .int .i64 y1, .int .i64 5, .int .i64 ys, .int .i64 cs, .int .i64 at4, .slice A1 z1.length c1, .slice A2 z2.length c2, .slice A3 z3.length c3, .slice A4 z4.length c4], .int .i64 x, .int .i64 y] w fun e w' => e = .returned (.int .i64 ((y / 2 - y0 / 2) * cs + (x / 4 - x0 / 4))) ∧ Below w.heap.size w w' := by
  have hB : Below w.heap.size w (w.alloc (.cells #[.int .i64 x0, .int .i64 y0, .int .i64 x1, .int .i64 y1, .int .i64 5, .int .i64 ys, .int .i64 cs, .int .i64 at4, .slice A1 z1.length c1, .slice A2 z2.length c2, .slice A3 z3.length c3, .slice A4 z4.length c4] 30)) := (Below.refl _ _).alloc (Nat.le_refl _) _
  have D0 : (w.alloc (.cells #[.int .i64 x0, .int .i64 y0, .int .i64 x1, .int .i64 y1, .int .i64 5, .int .i64 ys, .int .i64 cs, .int .i64 at4, .slice A1 z1.length c1, .slice A2 z2.length c2, .slice A3 z3.length c3, .slice A4 z4.length c4] 30)).cell? ⟨w.heap.size, 0, none⟩ = some (.int .i64 x0) := by first | (simp; done) | go_simp
  have D1 : (w.alloc (.cells #[.int .i64 x0, .int .i64 y0, .int .i64 x1, .int .i64 y1, .int .i64 5, .int .i64 ys, .int .i64 cs, .int .i64 at4, .slice A1 z1.length c1, .slice A2 z2.length c2, .slice A3 z3.length c3, .slice A4 z4.length c4] 30)).cell? ⟨w.heap.size, 1, none⟩ = some (.int .i64 y0) := by first | (simp; done) | go_simp
  have D2 : (w.alloc (.cells #[.int .i64 x0, .int .i64 y0, .int .i64 x1, .int .i64 y1, .int .i64 5, .int .i64 ys, .int .i64 cs, .int .i64 at4, .slice A1 z1.length c1, .slice A2 z2.length c2, .slice A3 z3.length c3, .slice A4 z4.length c4] 30)).cell? ⟨w.heap.size, 2, none⟩ = some (.int .i64 x1) := by first | (simp; done) | go_simp
  have D3 : (w.alloc (.cells #[.int .i64 x0, .int .i64 y0, .int .i64 x1, .int .i64 y1, .int .i64 5, .int .i64 ys, .int .i64 cs, .int .i64 at4, .slice A1 z1.length c1, .slice A2 z2.length c2, .slice A3 z3.length c3, .slice A4 z4.length c4] 30)).cell? ⟨w.heap.size, 3, none⟩ = some (.int .i64 y1) := by first | (simp; done) | go_simp
  have D4 : (w.alloc (.cells #[.int .i64 x0, .int .i64 y0, .int .i64 x1, .int .i64 y1, .int .i64 5, .int .i64 ys, .int .i64 cs, .int .i64 at4, .slice A1 z1.length c1, .slice A2 z2.length c2, .slice A3 z3.length c3, .slice A4 z4.length c4] 30)).cell? ⟨w.heap.size, 4, none⟩ = some (.int .i64 5) := by first | (simp; done) | go_simp
  have D5 : (w.alloc (.cells #[.int .i64 x0, .int .i64 y0, .int .i64 x1, .int .i64 y1, .int .i64 5, .int .i64 ys, .int .i64 cs, .int .i64 at4, .slice A1 z1.length c1, .slice A2 z2.length c2, .slice A3 z3.length c3, .slice A4 z4.length c4] 30)).cell? ⟨w.heap.size, 5, none⟩ = some (.int .i64 ys) := by first | (simp; done) | go_simp
  have D6 : (w.alloc (.cells #[.int .i64 x0, .int .i64 y0, .int .i64 x1, .int .i64 y1, .int .i64 5, .int .i64 ys, .int .i64 cs, .int .i64 at4, .slice A1 z1.length c1, .slice A2 z2.length c2, .slice A3 z3.length c3, .slice A4 z4.length c4] 30)).cell? ⟨w.heap.size, 6, none⟩ = some (.int .i64 cs) := by first | (simp; done) | go_simp
  have D7 : (w.alloc (.cells #[.int .i64 x0, .int .i64 y0, .int .i64 x1, .int .i64 y1, .int .i64 5, .int .i64 ys, .int .i64 cs, .int .i64 at4, .slice A1 z1.length c1, .slice A2 z2.length c2, .slice A3 z3.length c3, .slice A4 z4.length c4] 30)).cell? ⟨w.heap.size, 7, none⟩ = some (.int .i64 at4) := by first | (simp; done) | go_simp
  have D8 : (w.alloc (.cells #[.int .i64 x0, .int .i64 y0, .int .i64 x1, .int .i64 y1, .int .i64 5, .int .i64 ys, .int .i64 cs, .int .i64 at4, .slice A1 z1.length c1, .slice A2 z2.length c2, .slice A3 z3.length c3, .slice A4 z4.length c4] 30)).cell? ⟨w.heap.size, 8, none⟩ = some (.slice A1 z1.length c1) := by first | (simp; done) | go_simp
  have D9 : (w.alloc (.cells #[.int .i64 x0, .int .i64 y0, .int .i64 x1, .int .i64 y1, .int .i64 5, .int .i64 ys, .int .i64 cs, .int .i64 at4, .slice A1 z1.length c1, .slice A2 z2.length c2, .slice A3 z3.length c3, .slice A4 z4.length c4] 30)).cell? ⟨w.heap.size, 9, none⟩ = some (.slice A2 z2.length c2) := by first | (simp; done) | go_simp
  have D10 : (w.alloc (.cells #[.int .i64 x0, .int .i64 y0, .int .i64 x1, .int .i64 y1, .int .i64 5, .int .i64 ys, .int .i64 cs, .int .i64 at4, .slice A1 z1.length c1, .slice A2 z2.length c2, .slice A3 z3.length c3, .slice A4 z4.length c4] 30)).cell? ⟨w.heap.size, 10, none⟩ = some (.slice A3 z3.length c3) := by first | (simp; done) | go_simp
  have D11 : (w.alloc (.cells #[.int .i64 x0, .int .i64 y0, .int .i64 x1, .int .i64 y1, .int .i64 5, .int .i64 ys, .int .i64 cs, .int .i64 at4, .slice A1 z1.length c1, .slice A2 z2.length c2, .slice A3 z3.length c3, .slice A4 z4.length c4] 30)).cell? ⟨w.heap.size, 11, none⟩ = some (.slice A4 z4.length c4) := by first | (simp; done) | go_simp
  go_enter Try.func30, Try.ntmps30
  go_wp2_with fail
  generalize w.alloc (.cells #[.int .i64 x0, .int .i64 y0, .int .i64 x1, .int .i64 y1, .int .i64 5, .int .i64 ys, .int .i64 cs, .int .i64 at4, .slice A1 z1.length c1, .slice A2 z2.length c2, .slice A3 z3.length c3, .slice A4 z4.length c4] 30) = W0 at *
  go_wp2_with fail
  refine (step_any 5 (by omega) (by omega) _).mono ?_
  rintro e w' ⟨rfl, rfl⟩
  simp only [show stW 5 = 4 from rfl, show stH 5 = 2 from rfl]
  go_wp2
  go_quiet (fail)
  go_wp2
  go_ret
  exact ⟨by first | (simp; done) | (simp; omega), below_drewN hB _⟩

theorem chroma_any (x0 y0 x1 y1 rt ys cs at4 : Int) (A1 A2 A3 A4 : Option Addr) (c1 c2 c3 c4 : Nat) (z1 z2 z3 z4 : List Int) (x y : Int) (w : World) (h : Hid (Okay x0 y0 x1 y1 rt ys cs at4 x y)) :
    Calls Try.prog 30 #[.agg #[.int .i64 x0, .int .i64 y0, .int .i64 x1, .int .i64 y1, .int .i64 rt, .int .i64 ys, .int .i64 cs, .int .i64 at4, .slice A1 z1.length c1, .slice A2 z2.length c2, .slice A3 z3.length c3, .slice A4 z4.length c4], .int .i64 x, .int .i64 y] w fun e w' => e = .returned (.int .i64 (chr x0 y0 rt cs x y)) ∧ Below w.heap.size w w' := by
  obtain ⟨a1, a2, a3, a4, a5, a6, _, _, _, _⟩ := h.out.nums
  obtain ⟨⟨q1, q2⟩, q3, q4⟩ := h.out.prodC
  have m1 := h.out.m1
  have m2 := h.out.m2
  rcases ratio_cases h.out.r0 h.out.r5 with rfl | rfl | rfl | rfl | rfl | rfl
  · simp only [chr, show stW 0 = 1 from rfl, show stH 0 = 1 from rfl, Int.ediv_one]
    exact chroma_0 x0 y0 x1 y1 ys cs at4 A1 A2 A3 A4 c1 c2 c3 c4 z1 z2 z3 z4 x y w m1 m2 a3 a4 a1 a2 a5 a6 q1 q2
  · simp only [chr, show stW 1 = 2 from rfl, show stH 1 = 1 from rfl, Int.ediv_one]
    exact chroma_1 x0 y0 x1 y1 ys cs at4 A1 A2 A3 A4 c1 c2 c3 c4 z1 z2 z3 z4 x y w m1 m2 a3 a4 a1 a2 a5 a6 q1 q2
  · simp only [chr, show stW 2 = 2 from rfl, show stH 2 = 2 from rfl, Int.ediv_one]
    exact chroma_2 x0 y0 x1 y1 ys cs at4 A1 A2 A3 A4 c1 c2 c3 c4 z1 z2 z3 z4 x y w m1 m2 a3 a4 a1 a2 a5 a6 q3 q4
  · simp only [chr, show stW 3 = 1 from rfl, show stH 3 = 2 from rfl, Int.ediv_one]
    exact chroma_3 x0 y0 x1 y1 ys cs at4 A1 A2 A3 A4 c1 c2 c3 c4 z1 z2 z3 z4 x y w m1 m2 a3 a4 a1 a2 a5 a6 q3 q4
  · simp only [chr, show stW 4 = 4 from rfl, show stH 4 = 1 from rfl, Int.ediv_one]
    exact chroma_4 x0 y0 x1 y1 ys cs at4 A1 A2 A3 A4 c1 c2 c3 c4 z1 z2 z3 z4 x y w m1 m2 a3 a4 a1 a2 a5 a6 q1 q2
  · simp only [chr, show stW 5 = 4 from rfl, show stH 5 = 2 from rfl, Int.ediv_one]
    exact chroma_5 x0 y0 x1 y1 ys cs at4 A1 A2 A3 A4 c1 c2 c3 c4 z1 z2 z3 z4 x y w m1 m2 a3 a4 a1 a2 a5 a6 q3 q4

theorem cOffset_any (g : Nat) (x0 y0 x1 y1 rt ys cs at4 : Int) (A1 A2 A3 A4 : Option Addr) (c1 c2 c3 c4 : Nat) (z1 z2 z3 z4 : List Int) (x y : Int) (w : World) (hg : w.heap[g]? = some (.cells #[.slice A1 z1.length c1, .slice A2 z2.length c2, .slice A3 z3.length c3, .int .i64 ys, .int .i64 cs, .int .i64 rt, .int .i64 x0, .int .i64 y0, .int .i64 x1, .int .i64 y1, .slice A4 z4.length c4, .int .i64 at4] 83 (0, 0))) (h : Hid (Okay x0 y0 x1 y1 rt ys cs at4 x y)) :
    Calls Try.prog 52 #[.pointer (some ⟨g, 0, none⟩), .int .i64 x, .int .i64 y] w fun e w' => e = .returned (.int .i64 (chr x0 y0 rt cs x y)) ∧ ∃ n, w' = w.drewN n := by
  obtain ⟨a1, a2, a3, a4, a5, a6, b1, b2, b3, b4⟩ := h.out.nums
  obtain ⟨⟨q1, q2⟩, q3, q4⟩ := h.out.prodC
  have m1 := h.out.m1
  have m2 := h.out.m2
  rcases ratio_cases h.out.r0 h.out.r5 with rfl | rfl | rfl | rfl | rfl | rfl
  · simp only [chr, show stW 0 = 1 from rfl, show stH 0 = 1 from rfl, Int.ediv_one]
    exact cOffset_0 g x0 y0 x1 y1 ys cs at4 A1 A2 A3 A4 c1 c2 c3 c4 z1 z2 z3 z4 x y w hg b1 b2 b3 b4 q1 q2
  · simp only [chr, show stW 1 = 2 from rfl, show stH 1 = 1 from rfl, Int.ediv_one]
    exact cOffset_1 g x0 y0 x1 y1 ys cs at4 A1 A2 A3 A4 c1 c2 c3 c4 z1 z2 z3 z4 x y w hg m1 m2 a3 a4 a1 a2 a5 a6 q1 q2
  · simp only [chr, show stW 2 = 2 from rfl, show stH 2 = 2 from rfl, Int.ediv_one]
    exact cOffset_2 g x0 y0 x1 y1 ys cs at4 A1 A2 A3 A4 c1 c2 c3 c4 z1 z2 z3 z4 x y w hg m1 m2 a3 a4 a1 a2 a5 a6 q3 q4
  · simp only [chr, show stW 3 = 1 from rfl, show stH 3 = 2 from rfl, Int.ediv_one]
    exact cOffset_3 g x0 y0 x1 y1 ys cs at4 A1 A2 A3 A4 c1 c2 c3 c4 z1 z2 z3 z4 x y w hg m1 m2 a3 a4 a1 a2 a5 a6 q3 q4
  · simp only [chr, show stW 4 = 4 from rfl, show stH 4 = 1 from rfl, Int.ediv_one]
    exact cOffset_4 g x0 y0 x1 y1 ys cs at4 A1 A2 A3 A4 c1 c2 c3 c4 z1 z2 z3 z4 x y w hg m1 m2 a3 a4 a1 a2 a5 a6 q1 q2
  · simp only [chr, show stW 5 = 4 from rfl, show stH 5 = 2 from rfl, Int.ediv_one]
    exact cOffset_5 g x0 y0 x1 y1 ys cs at4 A1 A2 A3 A4 c1 c2 c3 c4 z1 z2 z3 z4 x y w hg m1 m2 a3 a4 a1 a2 a5 a6 q3 q4

/-- The samples of a pixel are there. -/
structure Ther (x0 y0 rt ys cs at4 : Int) (k1 k2 k3 k4 : Nat) (x y : Int) : Prop where
  y0' : 0 ≤ (y - y0) * ys + (x - x0)
  y1' : (y - y0) * ys + (x - x0) < k1
  c0' : 0 ≤ chr x0 y0 rt cs x y
  c1' : chr x0 y0 rt cs x y < k2
  c2' : chr x0 y0 rt cs x y < k3
  a0' : 0 ≤ (y - y0) * at4 + (x - x0)
  a1' : (y - y0) * at4 + (x - x0) < k4

set_option maxRecDepth 100000 in
set_option maxHeartbeats 2000000 in
theorem there_0 (x0 y0 x1 y1 rt ys cs at4 : Int) (A1 A2 A3 A4 : Option Addr) (c1 c2 c3 c4 : Nat) (z1 z2 z3 z4 : List Int) (x y : Int) (w : World) (h : Hid (Okay x0 y0 x1 y1 rt ys cs at4 x y)) (hy : Hid (¬ (0 ≤ (y - y0) * ys + (x - x0) ∧ (y - y0) * ys + (x - x0) < z1.length))) :
    Calls Try.prog 14 #[.agg #[.int .i64 x0, .int .i64 y0, .int .i64 x1, .int .i64 y1, .int .i64 rt, .int .i64 ys, .int .i64 cs, .int .i64 at4, .slice A1 z1.length c1, .slice A2 z2.length c2, .slice A3 z3.length c3, .slice A4 z4.length c4], .int .i64 x, .int .i64 y] w fun e w' => e = .returned (.bool false) ∧ Below w.heap.size w w' := by
  have hB : Below w.heap.size w (w.alloc (.cells #[.int .i64 x0, .int .i64 y0, .int .i64 x1, .int .i64 y1, .int .i64 rt, .int .i64 ys, .int .i64 cs, .int .i64 at4, .slice A1 z1.length c1, .slice A2 z2.length c2, .slice A3 z3.length c3, .slice A4 z4.length c4] 30)) := (Below.refl _ _).alloc (Nat.le_refl _) _
  have D0 : (w.alloc (.cells #[.int .i64 x0, .int .i64 y0, .int .i64 x1, .int .i64 y1, .int .i64 rt, .int .i64 ys, .int .i64 cs, .int .i64 at4, .slice A1 z1.length c1, .slice A2 z2.length c2, .slice A3 z3.length c3, .slice A4 z4.length c4] 30)).cell? ⟨w.heap.size, 0, none⟩ = some (.int .i64 x0) := by first | (simp; done) | go_simp
  have D1 : (w.alloc (.cells #[.int .i64 x0, .int .i64 y0, .int .i64 x1, .int .i64 y1, .int .i64 rt, .int .i64 ys, .int .i64 cs, .int .i64 at4, .slice A1 z1.length c1, .slice A2 z2.length c2, .slice A3 z3.length c3, .slice A4 z4.length c4] 30)).cell? ⟨w.heap.size, 1, none⟩ = some (.int .i64 y0) := by first | (simp; done) | go_simp
  have D2 : (w.alloc (.cells #[.int .i64 x0, .int .i64 y0, .int .i64 x1, .int .i64 y1, .int .i64 rt, .int .i64 ys, .int .i64 cs, .int .i64 at4, .slice A1 z1.length c1, .slice A2 z2.length c2, .slice A3 z3.length c3, .slice A4 z4.length c4] 30)).cell? ⟨w.heap.size, 2, none⟩ = some (.int .i64 x1) := by first | (simp; done) | go_simp
  have D3 : (w.alloc (.cells #[.int .i64 x0, .int .i64 y0, .int .i64 x1, .int .i64 y1, .int .i64 rt, .int .i64 ys, .int .i64 cs, .int .i64 at4, .slice A1 z1.length c1, .slice A2 z2.length c2, .slice A3 z3.length c3, .slice A4 z4.length c4] 30)).cell? ⟨w.heap.size, 3, none⟩ = some (.int .i64 y1) := by first | (simp; done) | go_simp
  have D4 : (w.alloc (.cells #[.int .i64 x0, .int .i64 y0, .int .i64 x1, .int .i64 y1, .int .i64 rt, .int .i64 ys, .int .i64 cs, .int .i64 at4, .slice A1 z1.length c1, .slice A2 z2.length c2, .slice A3 z3.length c3, .slice A4 z4.length c4] 30)).cell? ⟨w.heap.size, 4, none⟩ = some (.int .i64 rt) := by first | (simp; done) | go_simp
  have D5 : (w.alloc (.cells #[.int .i64 x0, .int .i64 y0, .int .i64 x1, .int .i64 y1, .int .i64 rt, .int .i64 ys, .int .i64 cs, .int .i64 at4, .slice A1 z1.length c1, .slice A2 z2.length c2, .slice A3 z3.length c3, .slice A4 z4.length c4] 30)).cell? ⟨w.heap.size, 5, none⟩ = some (.int .i64 ys) := by first | (simp; done) | go_simp
  have D6 : (w.alloc (.cells #[.int .i64 x0, .int .i64 y0, .int .i64 x1, .int .i64 y1, .int .i64 rt, .int .i64 ys, .int .i64 cs, .int .i64 at4, .slice A1 z1.length c1, .slice A2 z2.length c2, .slice A3 z3.length c3, .slice A4 z4.length c4] 30)).cell? ⟨w.heap.size, 6, none⟩ = some (.int .i64 cs) := by first | (simp; done) | go_simp
  have D7 : (w.alloc (.cells #[.int .i64 x0, .int .i64 y0, .int .i64 x1, .int .i64 y1, .int .i64 rt, .int .i64 ys, .int .i64 cs, .int .i64 at4, .slice A1 z1.length c1, .slice A2 z2.length c2, .slice A3 z3.length c3, .slice A4 z4.length c4] 30)).cell? ⟨w.heap.size, 7, none⟩ = some (.int .i64 at4) := by first | (simp; done) | go_simp
  have D8 : (w.alloc (.cells #[.int .i64 x0, .int .i64 y0, .int .i64 x1, .int .i64 y1, .int .i64 rt, .int .i64 ys, .int .i64 cs, .int .i64 at4, .slice A1 z1.length c1, .slice A2 z2.length c2, .slice A3 z3.length c3, .slice A4 z4.length c4] 30)).cell? ⟨w.heap.size, 8, none⟩ = some (.slice A1 z1.length c1) := by first | (simp; done) | go_simp
  have D9 : (w.alloc (.cells #[.int .i64 x0, .int .i64 y0, .int .i64 x1, .int .i64 y1, .int .i64 rt, .int .i64 ys, .int .i64 cs, .int .i64 at4, .slice A1 z1.length c1, .slice A2 z2.length c2, .slice A3 z3.length c3, .slice A4 z4.length c4] 30)).cell? ⟨w.heap.size, 9, none⟩ = some (.slice A2 z2.length c2) := by first | (simp; done) | go_simp
  have D10 : (w.alloc (.cells #[.int .i64 x0, .int .i64 y0, .int .i64 x1, .int .i64 y1, .int .i64 rt, .int .i64 ys, .int .i64 cs, .int .i64 at4, .slice A1 z1.length c1, .slice A2 z2.length c2, .slice A3 z3.length c3, .slice A4 z4.length c4] 30)).cell? ⟨w.heap.size, 10, none⟩ = some (.slice A3 z3.length c3) := by first | (simp; done) | go_simp
  have D11 : (w.alloc (.cells #[.int .i64 x0, .int .i64 y0, .int .i64 x1, .int .i64 y1, .int .i64 rt, .int .i64 ys, .int .i64 cs, .int .i64 at4, .slice A1 z1.length c1, .slice A2 z2.length c2, .slice A3 z3.length c3, .slice A4 z4.length c4] 30)).cell? ⟨w.heap.size, 11, none⟩ = some (.slice A4 z4.length c4) := by first | (simp; done) | go_simp
  obtain ⟨_, _, _, _, _, _, b1, b2, b3, b4⟩ := h.out.nums
  obtain ⟨⟨p1, p2⟩, p3, p4⟩ := h.out.prods
  go_enter Try.func14, Try.ntmps14
  go_wp2_with fail
  generalize w.alloc (.cells #[.int .i64 x0, .int .i64 y0, .int .i64 x1, .int .i64 y1, .int .i64 rt, .int .i64 ys, .int .i64 cs, .int .i64 at4, .slice A1 z1.length c1, .slice A2 z2.length c2, .slice A3 z3.length c3, .slice A4 z4.length c4] 30) = W0 at *
  go_wp2_with fail
  refine (chroma_any x0 y0 x1 y1 rt ys cs at4 A1 A2 A3 A4 c1 c2 c3 c4 z1 z2 z3 z4 x y _ h).mono ?_
  rintro e w1 ⟨rfl, hb1⟩
  replace D0 := cell_kept D0 hb1
  replace D1 := cell_kept D1 hb1
  replace D2 := cell_kept D2 hb1
  replace D3 := cell_kept D3 hb1
  replace D4 := cell_kept D4 hb1
  replace D5 := cell_kept D5 hb1
  replace D6 := cell_kept D6 hb1
  replace D7 := cell_kept D7 hb1
  replace D8 := cell_kept D8 hb1
  replace D9 := cell_kept D9 hb1
  replace D10 := cell_kept D10 hb1
  replace D11 := cell_kept D11 hb1
  replace hB := hB.trans (hb1.mono hB.size)
  clear hb1
  generalize chr x0 y0 rt cs x y = ch at *
  have P0 : Below w1.heap.size w1 w1.drew := (Below.refl _ _).drew
  have toS : ∀ W' : World, Below w1.heap.size w1 W' → (W'.cell? ⟨w.heap.size, 0, none⟩ = some (.int .i64 x0) ∧ W'.cell? ⟨w.heap.size, 1, none⟩ = some (.int .i64 y0) ∧ W'.cell? ⟨w.heap.size, 2, none⟩ = some (.int .i64 x1) ∧ W'.cell? ⟨w.heap.size, 3, none⟩ = some (.int .i64 y1) ∧ W'.cell? ⟨w.heap.size, 4, none⟩ = some (.int .i64 rt) ∧ W'.cell? ⟨w.heap.size, 5, none⟩ = some (.int .i64 ys) ∧ W'.cell? ⟨w.heap.size, 6, none⟩ = some (.int .i64 cs) ∧ W'.cell? ⟨w.heap.size, 7, none⟩ = some (.int .i64 at4) ∧ W'.cell? ⟨w.heap.size, 8, none⟩ = some (.slice A1 z1.length c1) ∧ W'.cell? ⟨w.heap.size, 9, none⟩ = some (.slice A2 z2.length c2) ∧ W'.cell? ⟨w.heap.size, 10, none⟩ = some (.slice A3 z3.length c3) ∧ W'.cell? ⟨w.heap.size, 11, none⟩ = some (.slice A4 z4.length c4)) := fun W' h => ⟨cell_kept D0 h, cell_kept D1 h, cell_kept D2 h, cell_kept D3 h, cell_kept D4 h, cell_kept D5 h, cell_kept D6 h, cell_kept D7 h, cell_kept D8 h, cell_kept D9 h, cell_kept D10 h, cell_kept D11 h⟩
  have TOS := Lib.hid toS
  clear toS
  have hzN := hB.size
  go_wp2_with fail
  refine wp_region_held_drew (S := fun w' => w'.cell? ⟨w.heap.size, 0, none⟩ = some (.int .i64 x0) ∧ w'.cell? ⟨w.heap.size, 1, none⟩ = some (.int .i64 y0) ∧ w'.cell? ⟨w.heap.size, 2, none⟩ = some (.int .i64 x1) ∧ w'.cell? ⟨w.heap.size, 3, none⟩ = some (.int .i64 y1) ∧ w'.cell? ⟨w.heap.size, 4, none⟩ = some (.int .i64 rt) ∧ w'.cell? ⟨w.heap.size, 5, none⟩ = some (.int .i64 ys) ∧ w'.cell? ⟨w.heap.size, 6, none⟩ = some (.int .i64 cs) ∧ w'.cell? ⟨w.heap.size, 7, none⟩ = some (.int .i64 at4) ∧ w'.cell? ⟨w.heap.size, 8, none⟩ = some (.slice A1 z1.length c1) ∧ w'.cell? ⟨w.heap.size, 9, none⟩ = some (.slice A2 z2.length c2) ∧ w'.cell? ⟨w.heap.size, 10, none⟩ = some (.slice A3 z3.length c3) ∧ w'.cell? ⟨w.heap.size, 11, none⟩ = some (.slice A4 z4.length c4)) (by kernel_rfl) ?_ (fun hHeld => ?_)
  · (first | (refine TOS.out _ ?_; first | with_reducible exact P3 | with_reducible exact P2 | with_reducible exact P1 | with_reducible exact P0))
  refine wpAnyH_take (i := 0) (oi := _) (v := ?v0) rfl (by kernel_rfl) (by kernel_rfl) (by kernel_rfl) (fun _ _ _ h => h) (Or.inl ⟨by rfl, ?hy0⟩) (by assumption) ?rest0
  case hy0 => (intro w hSw; (try dsimp only at hSw); go_simp <;> with_reducible rfl)
  try simp only [Act.put, List.getElem_toArray, List.getElem_cons_succ, List.getElem_cons_zero, List.setIfInBounds_toArray, List.set_cons_zero, List.set_cons_succ]
  refine wpAnyH_take (i := 1) (oi := _) (v := ?v1) rfl (by kernel_rfl) (by kernel_rfl) (by kernel_rfl) (fun _ _ _ h => h) (Or.inl ⟨by rfl, ?hy1⟩) (by assumption) ?rest1
  case hy1 => (intro w hSw; (try dsimp only at hSw); go_simp <;> with_reducible rfl)
  try simp only [Act.put, List.getElem_toArray, List.getElem_cons_succ, List.getElem_cons_zero, List.setIfInBounds_toArray, List.set_cons_zero, List.set_cons_succ]
  refine wpAnyH_take (i := 3) (oi := _) (v := ?v3) rfl (by kernel_rfl) (by kernel_rfl) (by kernel_rfl) (fun _ _ _ h => h) (Or.inl ⟨by rfl, ?hy3⟩) (by assumption) ?rest3
  case hy3 => (intro w hSw; (try dsimp only at hSw); go_simp <;> with_reducible rfl)
  try simp only [Act.put, List.getElem_toArray, List.getElem_cons_succ, List.getElem_cons_zero, List.setIfInBounds_toArray, List.set_cons_zero, List.set_cons_succ]
  refine wpAnyH_take (i := 4) (oi := _) (v := ?v4) rfl (by kernel_rfl) (by kernel_rfl) (by kernel_rfl) (fun _ _ _ h => h) (Or.inl ⟨by rfl, ?hy4⟩) (by assumption) ?rest4
  case hy4 => (intro w hSw; (try dsimp only at hSw); go_simp <;> with_reducible rfl)
  try simp only [Act.put, List.getElem_toArray, List.getElem_cons_succ, List.getElem_cons_zero, List.setIfInBounds_toArray, List.set_cons_zero, List.set_cons_succ]
  refine wpAnyH_take (i := 5) (oi := _) (v := ?v5) rfl (by kernel_rfl) (by kernel_rfl) (by kernel_rfl) (fun _ _ _ h => h) (Or.inl ⟨by rfl, ?hy5⟩) (by assumption) ?rest5
  case hy5 => (intro w hSw; (try dsimp only at hSw); go_simp <;> with_reducible rfl)
  try simp only [Act.put, List.getElem_toArray, List.getElem_cons_succ, List.getElem_cons_zero, List.setIfInBounds_toArray, List.set_cons_zero, List.set_cons_succ]
  refine wpAnyH_take (i := 6) (oi := _) (v := ?v6) rfl (by kernel_rfl) (by kernel_rfl) (by kernel_rfl) (fun _ _ _ h => h) (Or.inl ⟨by rfl, ?hy6⟩) (by assumption) ?rest6
  case hy6 => (intro w hSw; (try dsimp only at hSw); go_simp <;> with_reducible rfl)
  try simp only [Act.put, List.getElem_toArray, List.getElem_cons_succ, List.getElem_cons_zero, List.setIfInBounds_toArray, List.set_cons_zero, List.set_cons_succ]
  refine wpAnyH_take (i := 8) (oi := _) (v := ?v8) rfl (by kernel_rfl) (by kernel_rfl) (by kernel_rfl) (fun _ _ _ h => h) (Or.inl ⟨by rfl, ?hy8⟩) (by assumption) ?rest8
  case hy8 => (intro w hSw; (try dsimp only at hSw); go_simp <;> with_reducible rfl)
  try simp only [Act.put, List.getElem_toArray, List.getElem_cons_succ, List.getElem_cons_zero, List.setIfInBounds_toArray, List.set_cons_zero, List.set_cons_succ]
  refine wpAnyH_take (i := 9) (oi := _) (v := ?v9) rfl (by kernel_rfl) (by kernel_rfl) (by kernel_rfl) (fun _ _ _ h => h) (Or.inl ⟨by rfl, ?hy9⟩) (by assumption) ?rest9
  case hy9 => (intro w hSw; (try dsimp only at hSw); go_simp <;> with_reducible rfl)
  try simp only [Act.put, List.getElem_toArray, List.getElem_cons_succ, List.getElem_cons_zero, List.setIfInBounds_toArray, List.set_cons_zero, List.set_cons_succ]
  refine wpAnyH_ready (rs := [2]) (by kernel_rfl) (by simp) ?_
  refine AllReadyH.cons (o := _) rfl (fun K hK => ?_) AllReadyH.nil
  go_simp
  (go_at_call 11; refine (box_any x0 y0 x1 y1 _).mono ?_; rintro e v1 ⟨rfl, hq1⟩; have P1 : Below w1.heap.size w1 v1 := P0.trans (hq1.mono P0.size))
  refine hK.out _ _ ?_ (fun hHeld => ?_)
  · (first | (refine TOS.out _ ?_; first | with_reducible exact P3 | with_reducible exact P2 | with_reducible exact P1 | with_reducible exact P0))
  clear hK K
  try simp only [Act.put, List.getElem_toArray, List.getElem_cons_succ, List.getElem_cons_zero, List.setIfInBounds_toArray, List.set_cons_zero, List.set_cons_succ]
  refine wpAnyH_ready (rs := [7]) (by kernel_rfl) (by simp) ?_
  refine AllReadyH.cons (o := _) rfl (fun K hK => ?_) AllReadyH.nil
  go_simp
  (go_at_call 23; refine (offs_any x0 y0 x1 y1 ys x y _ b1 b2 b3 b4 p1 p2).mono ?_; rintro e v2 ⟨rfl, hq2⟩; rw [Int.mul_one]; have P2 : Below w1.heap.size w1 v2 := P1.trans (hq2.mono P1.size))
  refine hK.out _ _ ?_ (fun hHeld => ?_)
  · (first | (refine TOS.out _ ?_; first | with_reducible exact P3 | with_reducible exact P2 | with_reducible exact P1 | with_reducible exact P0))
  clear hK K
  try simp only [Act.put, List.getElem_toArray, List.getElem_cons_succ, List.getElem_cons_zero, List.setIfInBounds_toArray, List.set_cons_zero, List.set_cons_succ]
  refine wpAnyH_ready (rs := [10]) (by kernel_rfl) (by simp) ?_
  refine AllReadyH.cons (o := _) rfl (fun K hK => ?_) AllReadyH.nil
  go_simp
  (go_at_call 35; refine (among_any ((y - y0) * ys + (x - x0)) A1 z1.length c1 false (by have := hy.out; simp only [this]; simp) _).mono ?_; rintro e v3 ⟨rfl, rfl⟩; have P3 := P2)
  refine hK.out _ _ ?_ (fun hHeld => ?_)
  · (first | (refine TOS.out _ ?_; first | with_reducible exact P3 | with_reducible exact P2 | with_reducible exact P1 | with_reducible exact P0))
  clear hK K
  try simp only [Act.put, List.getElem_toArray, List.getElem_cons_succ, List.getElem_cons_zero, List.setIfInBounds_toArray, List.set_cons_zero, List.set_cons_succ]
  refine wpAnyH_take (i := 11) (oi := _) (v := ?v11) rfl (by kernel_rfl) (by kernel_rfl) (by kernel_rfl) (fun _ _ _ h => h) (Or.inl ⟨by rfl, ?hy11⟩) (by assumption) ?rest11
  case hy11 => (intro w hSw; (try dsimp only at hSw); go_simp <;> with_reducible rfl)
  try simp only [Act.put, List.getElem_toArray, List.getElem_cons_succ, List.getElem_cons_zero, List.setIfInBounds_toArray, List.set_cons_zero, List.set_cons_succ]
  refine wpAnyH_take (i := 12) (oi := _) (v := undef) rfl (by kernel_rfl) (by kernel_rfl) (by kernel_rfl) (fun _ _ _ h => h) (Or.inr ⟨by rfl, rfl⟩) (by assumption) ?_
  try simp only [Act.put, List.getElem_toArray, List.getElem_cons_succ, List.getElem_cons_zero, List.setIfInBounds_toArray, List.set_cons_zero, List.set_cons_succ]
  refine wpAnyH_take (i := 13) (oi := _) (v := undef) rfl (by kernel_rfl) (by kernel_rfl) (by kernel_rfl) (fun _ _ _ h => h) (Or.inr ⟨by rfl, rfl⟩) (by assumption) ?_
  try simp only [Act.put, List.getElem_toArray, List.getElem_cons_succ, List.getElem_cons_zero, List.setIfInBounds_toArray, List.set_cons_zero, List.set_cons_succ]
  refine wpAnyH_take (i := 14) (oi := _) (v := undef) rfl (by kernel_rfl) (by kernel_rfl) (by kernel_rfl) (fun _ _ _ h => h) (Or.inr ⟨by rfl, rfl⟩) (by assumption) ?_
  try simp only [Act.put, List.getElem_toArray, List.getElem_cons_succ, List.getElem_cons_zero, List.setIfInBounds_toArray, List.set_cons_zero, List.set_cons_succ]
  refine wpAnyH_ready (rs := [15]) (by kernel_rfl) (by simp) ?_
  refine AllReadyH.cons (o := _) rfl (fun K hK => ?_) AllReadyH.nil
  go_simp
  refine hK.out _ _ ?_ (fun hHeld => ?_)
  · (first | (refine TOS.out _ ?_; first | with_reducible exact P3 | with_reducible exact P2 | with_reducible exact P1 | with_reducible exact P0))
  clear hK K
  try simp only [Act.put, List.getElem_toArray, List.getElem_cons_succ, List.getElem_cons_zero, List.setIfInBounds_toArray, List.set_cons_zero, List.set_cons_succ]
  refine wpAnyH_take (i := 16) (oi := _) (v := ?v16) rfl (by kernel_rfl) (by kernel_rfl) (by kernel_rfl) (fun _ _ _ h => h) (Or.inl ⟨by rfl, ?hy16⟩) (by assumption) ?rest16
  case hy16 => (intro w hSw; (try dsimp only at hSw); go_simp <;> with_reducible rfl)
  try simp only [Act.put, List.getElem_toArray, List.getElem_cons_succ, List.getElem_cons_zero, List.setIfInBounds_toArray, List.set_cons_zero, List.set_cons_succ]
  refine wpAnyH_take (i := 17) (oi := _) (v := ?v17) rfl (by kernel_rfl) (by kernel_rfl) (by kernel_rfl) (fun _ _ _ h => h) (Or.inl ⟨by rfl, ?hy17⟩) (by assumption) ?rest17
  case hy17 => (intro w hSw; (try dsimp only at hSw); go_simp <;> with_reducible rfl)
  try simp only [Act.put, List.getElem_toArray, List.getElem_cons_succ, List.getElem_cons_zero, List.setIfInBounds_toArray, List.set_cons_zero, List.set_cons_succ]
  refine wpAnyH_take (i := 18) (oi := _) (v := undef) rfl (by kernel_rfl) (by kernel_rfl) (by kernel_rfl) (fun _ _ _ h => h) (Or.inr ⟨by rfl, rfl⟩) (by assumption) ?_
  try simp only [Act.put, List.getElem_toArray, List.getElem_cons_succ, List.getElem_cons_zero, List.setIfInBounds_toArray, List.set_cons_zero, List.set_cons_succ]
  refine wpAnyH_take (i := 19) (oi := _) (v := undef) rfl (by kernel_rfl) (by kernel_rfl) (by kernel_rfl) (fun _ _ _ h => h) (Or.inr ⟨by rfl, rfl⟩) (by assumption) ?_
  try simp only [Act.put, List.getElem_toArray, List.getElem_cons_succ, List.getElem_cons_zero, List.setIfInBounds_toArray, List.set_cons_zero, List.set_cons_succ]
  refine wpAnyH_take (i := 20) (oi := _) (v := undef) rfl (by kernel_rfl) (by kernel_rfl) (by kernel_rfl) (fun _ _ _ h => h) (Or.inr ⟨by rfl, rfl⟩) (by assumption) ?_
  try simp only [Act.put, List.getElem_toArray, List.getElem_cons_succ, List.getElem_cons_zero, List.setIfInBounds_toArray, List.set_cons_zero, List.set_cons_succ]
  refine wpAnyH_ready (rs := [21]) (by kernel_rfl) (by simp) ?_
  refine AllReadyH.cons (o := _) rfl (fun K hK => ?_) AllReadyH.nil
  go_simp
  refine hK.out _ _ ?_ (fun hHeld => ?_)
  · (first | (refine TOS.out _ ?_; first | with_reducible exact P3 | with_reducible exact P2 | with_reducible exact P1 | with_reducible exact P0))
  clear hK K
  try simp only [Act.put, List.getElem_toArray, List.getElem_cons_succ, List.getElem_cons_zero, List.setIfInBounds_toArray, List.set_cons_zero, List.set_cons_succ]
  refine wpAnyH_take (i := 22) (oi := _) (v := ?v22) rfl (by kernel_rfl) (by kernel_rfl) (by kernel_rfl) (fun _ _ _ h => h) (Or.inl ⟨by rfl, ?hy22⟩) (by assumption) ?rest22
  case hy22 => (intro w hSw; (try dsimp only at hSw); go_simp <;> with_reducible rfl)
  try simp only [Act.put, List.getElem_toArray, List.getElem_cons_succ, List.getElem_cons_zero, List.setIfInBounds_toArray, List.set_cons_zero, List.set_cons_succ]
  refine wpAnyH_take (i := 23) (oi := _) (v := ?v23) rfl (by kernel_rfl) (by kernel_rfl) (by kernel_rfl) (fun _ _ _ h => h) (Or.inl ⟨by rfl, ?hy23⟩) (by assumption) ?rest23
  case hy23 => (intro w hSw; (try dsimp only at hSw); go_simp <;> with_reducible rfl)
  try simp only [Act.put, List.getElem_toArray, List.getElem_cons_succ, List.getElem_cons_zero, List.setIfInBounds_toArray, List.set_cons_zero, List.set_cons_succ]
  refine wpAnyH_take (i := 24) (oi := _) (v := undef) rfl (by kernel_rfl) (by kernel_rfl) (by kernel_rfl) (fun _ _ _ h => h) (Or.inr ⟨by rfl, rfl⟩) (by assumption) ?_
  try simp only [Act.put, List.getElem_toArray, List.getElem_cons_succ, List.getElem_cons_zero, List.setIfInBounds_toArray, List.set_cons_zero, List.set_cons_succ]
  refine wpAnyH_take (i := 25) (oi := _) (v := undef) rfl (by kernel_rfl) (by kernel_rfl) (by kernel_rfl) (fun _ _ _ h => h) (Or.inr ⟨by rfl, rfl⟩) (by assumption) ?_
  try simp only [Act.put, List.getElem_toArray, List.getElem_cons_succ, List.getElem_cons_zero, List.setIfInBounds_toArray, List.set_cons_zero, List.set_cons_succ]
  refine wpAnyH_take (i := 27) (oi := _) (v := undef) rfl (by kernel_rfl) (by kernel_rfl) (by kernel_rfl) (fun _ _ _ h => h) (Or.inr ⟨by rfl, rfl⟩) (by assumption) ?_
  try simp only [Act.put, List.getElem_toArray, List.getElem_cons_succ, List.getElem_cons_zero, List.setIfInBounds_toArray, List.set_cons_zero, List.set_cons_succ]
  refine wpAnyH_take (i := 28) (oi := _) (v := undef) rfl (by kernel_rfl) (by kernel_rfl) (by kernel_rfl) (fun _ _ _ h => h) (Or.inr ⟨by rfl, rfl⟩) (by assumption) ?_
  try simp only [Act.put, List.getElem_toArray, List.getElem_cons_succ, List.getElem_cons_zero, List.setIfInBounds_toArray, List.set_cons_zero, List.set_cons_succ]
  refine wpAnyH_take (i := 29) (oi := _) (v := undef) rfl (by kernel_rfl) (by kernel_rfl) (by kernel_rfl) (fun _ _ _ h => h) (Or.inr ⟨by rfl, rfl⟩) (by assumption) ?_
  try simp only [Act.put, List.getElem_toArray, List.getElem_cons_succ, List.getElem_cons_zero, List.setIfInBounds_toArray, List.set_cons_zero, List.set_cons_succ]
  refine wpAnyH_take (i := 30) (oi := _) (v := undef) rfl (by kernel_rfl) (by kernel_rfl) (by kernel_rfl) (fun _ _ _ h => h) (Or.inr ⟨by rfl, rfl⟩) (by assumption) ?_
  try simp only [Act.put, List.getElem_toArray, List.getElem_cons_succ, List.getElem_cons_zero, List.setIfInBounds_toArray, List.set_cons_zero, List.set_cons_succ]
  refine wpAnyH_take (i := 32) (oi := _) (v := undef) rfl (by kernel_rfl) (by kernel_rfl) (by kernel_rfl) (fun _ _ _ h => h) (Or.inr ⟨by rfl, rfl⟩) (by assumption) ?_
  try simp only [Act.put, List.getElem_toArray, List.getElem_cons_succ, List.getElem_cons_zero, List.setIfInBounds_toArray, List.set_cons_zero, List.set_cons_succ]
  refine wpAnyH_take (i := 33) (oi := _) (v := undef) rfl (by kernel_rfl) (by kernel_rfl) (by kernel_rfl) (fun _ _ _ h => h) (Or.inr ⟨by rfl, rfl⟩) (by assumption) ?_
  try simp only [Act.put, List.getElem_toArray, List.getElem_cons_succ, List.getElem_cons_zero, List.setIfInBounds_toArray, List.set_cons_zero, List.set_cons_succ]
  refine wpAnyH_ready (rs := [26]) (by kernel_rfl) (by simp) ?_
  refine AllReadyH.cons (o := _) rfl (fun K hK => ?_) AllReadyH.nil
  go_simp
  refine hK.out _ _ ?_ (fun hHeld => ?_)
  · (first | (refine TOS.out _ ?_; first | with_reducible exact P3 | with_reducible exact P2 | with_reducible exact P1 | with_reducible exact P0))
  clear hK K
  try simp only [Act.put, List.getElem_toArray, List.getElem_cons_succ, List.getElem_cons_zero, List.setIfInBounds_toArray, List.set_cons_zero, List.set_cons_succ]
  refine wpAnyH_ready (rs := [31]) (by kernel_rfl) (by simp) ?_
  refine AllReadyH.cons (o := _) rfl (fun K hK => ?_) AllReadyH.nil
  go_simp
  refine hK.out _ _ ?_ (fun hHeld => ?_)
  · (first | (refine TOS.out _ ?_; first | with_reducible exact P3 | with_reducible exact P2 | with_reducible exact P1 | with_reducible exact P0))
  clear hK K
  try simp only [Act.put, List.getElem_toArray, List.getElem_cons_succ, List.getElem_cons_zero, List.setIfInBounds_toArray, List.set_cons_zero, List.set_cons_succ]
  refine wpAnyH_ready (rs := [34]) (by kernel_rfl) (by simp) ?_
  refine AllReadyH.cons (o := _) rfl (fun K hK => ?_) AllReadyH.nil
  go_simp
  refine hK.out _ _ ?_ (fun hHeld => ?_)
  · (first | (refine TOS.out _ ?_; first | with_reducible exact P3 | with_reducible exact P2 | with_reducible exact P1 | with_reducible exact P0))
  clear hK K
  try simp only [Act.put, List.getElem_toArray, List.getElem_cons_succ, List.getElem_cons_zero, List.setIfInBounds_toArray, List.set_cons_zero, List.set_cons_succ]
  refine wpAnyH_take (i := 35) (oi := _) (v := ?v35) rfl (by kernel_rfl) (by kernel_rfl) (by kernel_rfl) (fun _ _ _ h => h) (Or.inl ⟨by rfl, ?hy35⟩) (by assumption) ?rest35
  case hy35 => (intro w hSw; (try dsimp only at hSw); go_simp <;> with_reducible rfl)
  try simp only [Act.put, List.getElem_toArray, List.getElem_cons_succ, List.getElem_cons_zero, List.setIfInBounds_toArray, List.set_cons_zero, List.set_cons_succ]
  refine wpAnyH_take (i := 36) (oi := _) (v := ?v36) rfl (by kernel_rfl) (by kernel_rfl) (by kernel_rfl) (fun _ _ _ h => h) (Or.inl ⟨by rfl, ?hy36⟩) (by assumption) ?rest36
  case hy36 => (intro w hSw; (try dsimp only at hSw); go_simp <;> with_reducible rfl)
  try simp only [Act.put, List.getElem_toArray, List.getElem_cons_succ, List.getElem_cons_zero, List.setIfInBounds_toArray, List.set_cons_zero, List.set_cons_succ]
  refine wpAnyH_done (by kernel_rfl) ?_ _
  go_wp2
  go_ret
  exact ⟨by simp, hB.trans (P3.mono hzN)⟩

set_option maxRecDepth 100000 in
set_option maxHeartbeats 2000000 in
theorem there_1 (x0 y0 x1 y1 rt ys cs at4 : Int) (A1 A2 A3 A4 : Option Addr) (c1 c2 c3 c4 : Nat) (z1 z2 z3 z4 : List Int) (x y : Int) (w : World) (h : Hid (Okay x0 y0 x1 y1 rt ys cs at4 x y)) (hy : Hid (0 ≤ (y - y0) * ys + (x - x0) ∧ (y - y0) * ys + (x - x0) < z1.length)) (hc : Hid (¬ (0 ≤ chr x0 y0 rt cs x y ∧ chr x0 y0 rt cs x y < z2.length))) :
    Calls Try.prog 14 #[.agg #[.int .i64 x0, .int .i64 y0, .int .i64 x1, .int .i64 y1, .int .i64 rt, .int .i64 ys, .int .i64 cs, .int .i64 at4, .slice A1 z1.length c1, .slice A2 z2.length c2, .slice A3 z3.length c3, .slice A4 z4.length c4], .int .i64 x, .int .i64 y] w fun e w' => e = .returned (.bool false) ∧ Below w.heap.size w w' := by
  have hB : Below w.heap.size w (w.alloc (.cells #[.int .i64 x0, .int .i64 y0, .int .i64 x1, .int .i64 y1, .int .i64 rt, .int .i64 ys, .int .i64 cs, .int .i64 at4, .slice A1 z1.length c1, .slice A2 z2.length c2, .slice A3 z3.length c3, .slice A4 z4.length c4] 30)) := (Below.refl _ _).alloc (Nat.le_refl _) _
  have D0 : (w.alloc (.cells #[.int .i64 x0, .int .i64 y0, .int .i64 x1, .int .i64 y1, .int .i64 rt, .int .i64 ys, .int .i64 cs, .int .i64 at4, .slice A1 z1.length c1, .slice A2 z2.length c2, .slice A3 z3.length c3, .slice A4 z4.length c4] 30)).cell? ⟨w.heap.size, 0, none⟩ = some (.int .i64 x0) := by first | (simp; done) | go_simp
  have D1 : (w.alloc (.cells #[.int .i64 x0, .int .i64 y0, .int .i64 x1, .int .i64 y1, .int .i64 rt, .int .i64 ys, .int .i64 cs, .int .i64 at4, .slice A1 z1.length c1, .slice A2 z2.length c2, .slice A3 z3.length c3, .slice A4 z4.length c4] 30)).cell? ⟨w.heap.size, 1, none⟩ = some (.int .i64 y0) := by first | (simp; done) | go_simp
  have D2 : (w.alloc (.cells #[.int .i64 x0, .int .i64 y0, .int .i64 x1, .int .i64 y1, .int .i64 rt, .int .i64 ys, .int .i64 cs, .int .i64 at4, .slice A1 z1.length c1, .slice A2 z2.length c2, .slice A3 z3.length c3, .slice A4 z4.length c4] 30)).cell? ⟨w.heap.size, 2, none⟩ = some (.int .i64 x1) := by first | (simp; done) | go_simp
  have D3 : (w.alloc (.cells #[.int .i64 x0, .int .i64 y0, .int .i64 x1, .int .i64 y1, .int .i64 rt, .int .i64 ys, .int .i64 cs, .int .i64 at4, .slice A1 z1.length c1, .slice A2 z2.length c2, .slice A3 z3.length c3, .slice A4 z4.length c4] 30)).cell? ⟨w.heap.size, 3, none⟩ = some (.int .i64 y1) := by first | (simp; done) | go_simp
  have D4 : (w.alloc (.cells #[.int .i64 x0, .int .i64 y0, .int .i64 x1, .int .i64 y1, .int .i64 rt, .int .i64 ys, .int .i64 cs, .int .i64 at4, .slice A1 z1.length c1, .slice A2 z2.length c2, .slice A3 z3.length c3, .slice A4 z4.length c4] 30)).cell? ⟨w.heap.size, 4, none⟩ = some (.int .i64 rt) := by first | (simp; done) | go_simp
  have D5 : (w.alloc (.cells #[.int .i64 x0, .int .i64 y0, .int .i64 x1, .int .i64 y1, .int .i64 rt, .int .i64 ys, .int .i64 cs, .int .i64 at4, .slice A1 z1.length c1, .slice A2 z2.length c2, .slice A3 z3.length c3, .slice A4 z4.length c4] 30)).cell? ⟨w.heap.size, 5, none⟩ = some (.int .i64 ys) := by first | (simp; done) | go_simp
  have D6 : (w.alloc (.cells #[.int .i64 x0, .int .i64 y0, .int .i64 x1, .int .i64 y1, .int .i64 rt, .int .i64 ys, .int .i64 cs, .int .i64 at4, .slice A1 z1.length c1, .slice A2 z2.length c2, .slice A3 z3.length c3, .slice A4 z4.length c4] 30)).cell? ⟨w.heap.size, 6, none⟩ = some (.int .i64 cs) := by first | (simp; done) | go_simp
  have D7 : (w.alloc (.cells #[.int .i64 x0, .int .i64 y0, .int .i64 x1, .int .i64 y1, .int .i64 rt, .int .i64 ys, .int .i64 cs, .int .i64 at4, .slice A1 z1.length c1, .slice A2 z2.length c2, .slice A3 z3.length c3, .slice A4 z4.length c4] 30)).cell? ⟨w.heap.size, 7, none⟩ = some (.int .i64 at4) := by first | (simp; done) | go_simp
  have D8 : (w.alloc (.cells #[.int .i64 x0, .int .i64 y0, .int .i64 x1, .int .i64 y1, .int .i64 rt, .int .i64 ys, .int .i64 cs, .int .i64 at4, .slice A1 z1.length c1, .slice A2 z2.length c2, .slice A3 z3.length c3, .slice A4 z4.length c4] 30)).cell? ⟨w.heap.size, 8, none⟩ = some (.slice A1 z1.length c1) := by first | (simp; done) | go_simp
  have D9 : (w.alloc (.cells #[.int .i64 x0, .int .i64 y0, .int .i64 x1, .int .i64 y1, .int .i64 rt, .int .i64 ys, .int .i64 cs, .int .i64 at4, .slice A1 z1.length c1, .slice A2 z2.length c2, .slice A3 z3.length c3, .slice A4 z4.length c4] 30)).cell? ⟨w.heap.size, 9, none⟩ = some (.slice A2 z2.length c2) := by first | (simp; done) | go_simp
  have D10 : (w.alloc (.cells #[.int .i64 x0, .int .i64 y0, .int .i64 x1, .int .i64 y1, .int .i64 rt, .int .i64 ys, .int .i64 cs, .int .i64 at4, .slice A1 z1.length c1, .slice A2 z2.length c2, .slice A3 z3.length c3, .slice A4 z4.length c4] 30)).cell? ⟨w.heap.size, 10, none⟩ = some (.slice A3 z3.length c3) := by first | (simp; done) | go_simp
  have D11 : (w.alloc (.cells #[.int .i64 x0, .int .i64 y0, .int .i64 x1, .int .i64 y1, .int .i64 rt, .int .i64 ys, .int .i64 cs, .int .i64 at4, .slice A1 z1.length c1, .slice A2 z2.length c2, .slice A3 z3.length c3, .slice A4 z4.length c4] 30)).cell? ⟨w.heap.size, 11, none⟩ = some (.slice A4 z4.length c4) := by first | (simp; done) | go_simp
  obtain ⟨_, _, _, _, _, _, b1, b2, b3, b4⟩ := h.out.nums
  obtain ⟨⟨p1, p2⟩, p3, p4⟩ := h.out.prods
  go_enter Try.func14, Try.ntmps14
  go_wp2_with fail
  generalize w.alloc (.cells #[.int .i64 x0, .int .i64 y0, .int .i64 x1, .int .i64 y1, .int .i64 rt, .int .i64 ys, .int .i64 cs, .int .i64 at4, .slice A1 z1.length c1, .slice A2 z2.length c2, .slice A3 z3.length c3, .slice A4 z4.length c4] 30) = W0 at *
  go_wp2_with fail
  refine (chroma_any x0 y0 x1 y1 rt ys cs at4 A1 A2 A3 A4 c1 c2 c3 c4 z1 z2 z3 z4 x y _ h).mono ?_
  rintro e w1 ⟨rfl, hb1⟩
  replace D0 := cell_kept D0 hb1
  replace D1 := cell_kept D1 hb1
  replace D2 := cell_kept D2 hb1
  replace D3 := cell_kept D3 hb1
  replace D4 := cell_kept D4 hb1
  replace D5 := cell_kept D5 hb1
  replace D6 := cell_kept D6 hb1
  replace D7 := cell_kept D7 hb1
  replace D8 := cell_kept D8 hb1
  replace D9 := cell_kept D9 hb1
  replace D10 := cell_kept D10 hb1
  replace D11 := cell_kept D11 hb1
  replace hB := hB.trans (hb1.mono hB.size)
  clear hb1
  generalize chr x0 y0 rt cs x y = ch at *
  have P0 : Below w1.heap.size w1 w1.drew := (Below.refl _ _).drew
  have toS : ∀ W' : World, Below w1.heap.size w1 W' → (W'.cell? ⟨w.heap.size, 0, none⟩ = some (.int .i64 x0) ∧ W'.cell? ⟨w.heap.size, 1, none⟩ = some (.int .i64 y0) ∧ W'.cell? ⟨w.heap.size, 2, none⟩ = some (.int .i64 x1) ∧ W'.cell? ⟨w.heap.size, 3, none⟩ = some (.int .i64 y1) ∧ W'.cell? ⟨w.heap.size, 4, none⟩ = some (.int .i64 rt) ∧ W'.cell? ⟨w.heap.size, 5, none⟩ = some (.int .i64 ys) ∧ W'.cell? ⟨w.heap.size, 6, none⟩ = some (.int .i64 cs) ∧ W'.cell? ⟨w.heap.size, 7, none⟩ = some (.int .i64 at4) ∧ W'.cell? ⟨w.heap.size, 8, none⟩ = some (.slice A1 z1.length c1) ∧ W'.cell? ⟨w.heap.size, 9, none⟩ = some (.slice A2 z2.length c2) ∧ W'.cell? ⟨w.heap.size, 10, none⟩ = some (.slice A3 z3.length c3) ∧ W'.cell? ⟨w.heap.size, 11, none⟩ = some (.slice A4 z4.length c4)) := fun W' h => ⟨cell_kept D0 h, cell_kept D1 h, cell_kept D2 h, cell_kept D3 h, cell_kept D4 h, cell_kept D5 h, cell_kept D6 h, cell_kept D7 h, cell_kept D8 h, cell_kept D9 h, cell_kept D10 h, cell_kept D11 h⟩
  have TOS := Lib.hid toS
  clear toS
  have hzN := hB.size
  go_wp2_with fail
  refine wp_region_held_drew (S := fun w' => w'.cell? ⟨w.heap.size, 0, none⟩ = some (.int .i64 x0) ∧ w'.cell? ⟨w.heap.size, 1, none⟩ = some (.int .i64 y0) ∧ w'.cell? ⟨w.heap.size, 2, none⟩ = some (.int .i64 x1) ∧ w'.cell? ⟨w.heap.size, 3, none⟩ = some (.int .i64 y1) ∧ w'.cell? ⟨w.heap.size, 4, none⟩ = some (.int .i64 rt) ∧ w'.cell? ⟨w.heap.size, 5, none⟩ = some (.int .i64 ys) ∧ w'.cell? ⟨w.heap.size, 6, none⟩ = some (.int .i64 cs) ∧ w'.cell? ⟨w.heap.size, 7, none⟩ = some (.int .i64 at4) ∧ w'.cell? ⟨w.heap.size, 8, none⟩ = some (.slice A1 z1.length c1) ∧ w'.cell? ⟨w.heap.size, 9, none⟩ = some (.slice A2 z2.length c2) ∧ w'.cell? ⟨w.heap.size, 10, none⟩ = some (.slice A3 z3.length c3) ∧ w'.cell? ⟨w.heap.size, 11, none⟩ = some (.slice A4 z4.length c4)) (by kernel_rfl) ?_ (fun hHeld => ?_)
  · (first | (refine TOS.out _ ?_; first | with_reducible exact P4 | with_reducible exact P3 | with_reducible exact P2 | with_reducible exact P1 | with_reducible exact P0))
  refine wpAnyH_take (i := 0) (oi := _) (v := ?v0) rfl (by kernel_rfl) (by kernel_rfl) (by kernel_rfl) (fun _ _ _ h => h) (Or.inl ⟨by rfl, ?hy0⟩) (by assumption) ?rest0
  case hy0 => (intro w hSw; (try dsimp only at hSw); go_simp <;> with_reducible rfl)
  try simp only [Act.put, List.getElem_toArray, List.getElem_cons_succ, List.getElem_cons_zero, List.setIfInBounds_toArray, List.set_cons_zero, List.set_cons_succ]
  refine wpAnyH_take (i := 1) (oi := _) (v := ?v1) rfl (by kernel_rfl) (by kernel_rfl) (by kernel_rfl) (fun _ _ _ h => h) (Or.inl ⟨by rfl, ?hy1⟩) (by assumption) ?rest1
  case hy1 => (intro w hSw; (try dsimp only at hSw); go_simp <;> with_reducible rfl)
  try simp only [Act.put, List.getElem_toArray, List.getElem_cons_succ, List.getElem_cons_zero, List.setIfInBounds_toArray, List.set_cons_zero, List.set_cons_succ]
  refine wpAnyH_take (i := 3) (oi := _) (v := ?v3) rfl (by kernel_rfl) (by kernel_rfl) (by kernel_rfl) (fun _ _ _ h => h) (Or.inl ⟨by rfl, ?hy3⟩) (by assumption) ?rest3
  case hy3 => (intro w hSw; (try dsimp only at hSw); go_simp <;> with_reducible rfl)
  try simp only [Act.put, List.getElem_toArray, List.getElem_cons_succ, List.getElem_cons_zero, List.setIfInBounds_toArray, List.set_cons_zero, List.set_cons_succ]
  refine wpAnyH_take (i := 4) (oi := _) (v := ?v4) rfl (by kernel_rfl) (by kernel_rfl) (by kernel_rfl) (fun _ _ _ h => h) (Or.inl ⟨by rfl, ?hy4⟩) (by assumption) ?rest4
  case hy4 => (intro w hSw; (try dsimp only at hSw); go_simp <;> with_reducible rfl)
  try simp only [Act.put, List.getElem_toArray, List.getElem_cons_succ, List.getElem_cons_zero, List.setIfInBounds_toArray, List.set_cons_zero, List.set_cons_succ]
  refine wpAnyH_take (i := 5) (oi := _) (v := ?v5) rfl (by kernel_rfl) (by kernel_rfl) (by kernel_rfl) (fun _ _ _ h => h) (Or.inl ⟨by rfl, ?hy5⟩) (by assumption) ?rest5
  case hy5 => (intro w hSw; (try dsimp only at hSw); go_simp <;> with_reducible rfl)
  try simp only [Act.put, List.getElem_toArray, List.getElem_cons_succ, List.getElem_cons_zero, List.setIfInBounds_toArray, List.set_cons_zero, List.set_cons_succ]
  refine wpAnyH_take (i := 6) (oi := _) (v := ?v6) rfl (by kernel_rfl) (by kernel_rfl) (by kernel_rfl) (fun _ _ _ h => h) (Or.inl ⟨by rfl, ?hy6⟩) (by assumption) ?rest6
  case hy6 => (intro w hSw; (try dsimp only at hSw); go_simp <;> with_reducible rfl)
  try simp only [Act.put, List.getElem_toArray, List.getElem_cons_succ, List.getElem_cons_zero, List.setIfInBounds_toArray, List.set_cons_zero, List.set_cons_succ]
  refine wpAnyH_take (i := 8) (oi := _) (v := ?v8) rfl (by kernel_rfl) (by kernel_rfl) (by kernel_rfl) (fun _ _ _ h => h) (Or.inl ⟨by rfl, ?hy8⟩) (by assumption) ?rest8
  case hy8 => (intro w hSw; (try dsimp only at hSw); go_simp <;> with_reducible rfl)
  try simp only [Act.put, List.getElem_toArray, List.getElem_cons_succ, List.getElem_cons_zero, List.setIfInBounds_toArray, List.set_cons_zero, List.set_cons_succ]
  refine wpAnyH_take (i := 9) (oi := _) (v := ?v9) rfl (by kernel_rfl) (by kernel_rfl) (by kernel_rfl) (fun _ _ _ h => h) (Or.inl ⟨by rfl, ?hy9⟩) (by assumption) ?rest9
  case hy9 => (intro w hSw; (try dsimp only at hSw); go_simp <;> with_reducible rfl)
  try simp only [Act.put, List.getElem_toArray, List.getElem_cons_succ, List.getElem_cons_zero, List.setIfInBounds_toArray, List.set_cons_zero, List.set_cons_succ]
  refine wpAnyH_ready (rs := [2]) (by kernel_rfl) (by simp) ?_
  refine AllReadyH.cons (o := _) rfl (fun K hK => ?_) AllReadyH.nil
  go_simp
  (go_at_call 11; refine (box_any x0 y0 x1 y1 _).mono ?_; rintro e v1 ⟨rfl, hq1⟩; have P1 : Below w1.heap.size w1 v1 := P0.trans (hq1.mono P0.size))
  refine hK.out _ _ ?_ (fun hHeld => ?_)
  · (first | (refine TOS.out _ ?_; first | with_reducible exact P4 | with_reducible exact P3 | with_reducible exact P2 | with_reducible exact P1 | with_reducible exact P0))
  clear hK K
  try simp only [Act.put, List.getElem_toArray, List.getElem_cons_succ, List.getElem_cons_zero, List.setIfInBounds_toArray, List.set_cons_zero, List.set_cons_succ]
  refine wpAnyH_ready (rs := [7]) (by kernel_rfl) (by simp) ?_
  refine AllReadyH.cons (o := _) rfl (fun K hK => ?_) AllReadyH.nil
  go_simp
  (go_at_call 23; refine (offs_any x0 y0 x1 y1 ys x y _ b1 b2 b3 b4 p1 p2).mono ?_; rintro e v2 ⟨rfl, hq2⟩; rw [Int.mul_one]; have P2 : Below w1.heap.size w1 v2 := P1.trans (hq2.mono P1.size))
  refine hK.out _ _ ?_ (fun hHeld => ?_)
  · (first | (refine TOS.out _ ?_; first | with_reducible exact P4 | with_reducible exact P3 | with_reducible exact P2 | with_reducible exact P1 | with_reducible exact P0))
  clear hK K
  try simp only [Act.put, List.getElem_toArray, List.getElem_cons_succ, List.getElem_cons_zero, List.setIfInBounds_toArray, List.set_cons_zero, List.set_cons_succ]
  refine wpAnyH_ready (rs := [10]) (by kernel_rfl) (by simp) ?_
  refine AllReadyH.cons (o := _) rfl (fun K hK => ?_) AllReadyH.nil
  go_simp
  (go_at_call 35; refine (among_any ((y - y0) * ys + (x - x0)) A1 z1.length c1 true (iff_of_true rfl hy.out) _).mono ?_; rintro e v3 ⟨rfl, rfl⟩; have P3 := P2)
  refine hK.out _ _ ?_ (fun hHeld => ?_)
  · (first | (refine TOS.out _ ?_; first | with_reducible exact P4 | with_reducible exact P3 | with_reducible exact P2 | with_reducible exact P1 | with_reducible exact P0))
  clear hK K
  try simp only [Act.put, List.getElem_toArray, List.getElem_cons_succ, List.getElem_cons_zero, List.setIfInBounds_toArray, List.set_cons_zero, List.set_cons_succ]
  refine wpAnyH_take (i := 11) (oi := _) (v := ?v11) rfl (by kernel_rfl) (by kernel_rfl) (by kernel_rfl) (fun _ _ _ h => h) (Or.inl ⟨by rfl, ?hy11⟩) (by assumption) ?rest11
  case hy11 => (intro w hSw; (try dsimp only at hSw); go_simp <;> with_reducible rfl)
  try simp only [Act.put, List.getElem_toArray, List.getElem_cons_succ, List.getElem_cons_zero, List.setIfInBounds_toArray, List.set_cons_zero, List.set_cons_succ]
  refine wpAnyH_take (i := 12) (oi := _) (v := ?v12) rfl (by kernel_rfl) (by kernel_rfl) (by kernel_rfl) (fun _ _ _ h => h) (Or.inl ⟨by rfl, ?hy12⟩) (by assumption) ?rest12
  case hy12 => (intro w hSw; (try dsimp only at hSw); go_simp <;> with_reducible rfl)
  try simp only [Act.put, List.getElem_toArray, List.getElem_cons_succ, List.getElem_cons_zero, List.setIfInBounds_toArray, List.set_cons_zero, List.set_cons_succ]
  refine wpAnyH_take (i := 13) (oi := _) (v := ?v13) rfl (by kernel_rfl) (by kernel_rfl) (by kernel_rfl) (fun _ _ _ h => h) (Or.inl ⟨by rfl, ?hy13⟩) (by assumption) ?rest13
  case hy13 => (intro w hSw; (try dsimp only at hSw); go_simp <;> with_reducible rfl)
  try simp only [Act.put, List.getElem_toArray, List.getElem_cons_succ, List.getElem_cons_zero, List.setIfInBounds_toArray, List.set_cons_zero, List.set_cons_succ]
  refine wpAnyH_take (i := 14) (oi := _) (v := ?v14) rfl (by kernel_rfl) (by kernel_rfl) (by kernel_rfl) (fun _ _ _ h => h) (Or.inl ⟨by rfl, ?hy14⟩) (by assumption) ?rest14
  case hy14 => (intro w hSw; (try dsimp only at hSw); go_simp <;> with_reducible rfl)
  try simp only [Act.put, List.getElem_toArray, List.getElem_cons_succ, List.getElem_cons_zero, List.setIfInBounds_toArray, List.set_cons_zero, List.set_cons_succ]
  refine wpAnyH_ready (rs := [15]) (by kernel_rfl) (by simp) ?_
  refine AllReadyH.cons (o := _) rfl (fun K hK => ?_) AllReadyH.nil
  go_simp
  (go_at_call 35; refine (among_any (ch) A2 z2.length c2 false (by have := hc.out; simp only [this]; simp) _).mono ?_; rintro e v4 ⟨rfl, rfl⟩; have P4 := P3)
  refine hK.out _ _ ?_ (fun hHeld => ?_)
  · (first | (refine TOS.out _ ?_; first | with_reducible exact P4 | with_reducible exact P3 | with_reducible exact P2 | with_reducible exact P1 | with_reducible exact P0))
  clear hK K
  try simp only [Act.put, List.getElem_toArray, List.getElem_cons_succ, List.getElem_cons_zero, List.setIfInBounds_toArray, List.set_cons_zero, List.set_cons_succ]
  refine wpAnyH_take (i := 16) (oi := _) (v := ?v16) rfl (by kernel_rfl) (by kernel_rfl) (by kernel_rfl) (fun _ _ _ h => h) (Or.inl ⟨by rfl, ?hy16⟩) (by assumption) ?rest16
  case hy16 => (intro w hSw; (try dsimp only at hSw); go_simp <;> with_reducible rfl)
  try simp only [Act.put, List.getElem_toArray, List.getElem_cons_succ, List.getElem_cons_zero, List.setIfInBounds_toArray, List.set_cons_zero, List.set_cons_succ]
  refine wpAnyH_take (i := 17) (oi := _) (v := ?v17) rfl (by kernel_rfl) (by kernel_rfl) (by kernel_rfl) (fun _ _ _ h => h) (Or.inl ⟨by rfl, ?hy17⟩) (by assumption) ?rest17
  case hy17 => (intro w hSw; (try dsimp only at hSw); go_simp <;> with_reducible rfl)
  try simp only [Act.put, List.getElem_toArray, List.getElem_cons_succ, List.getElem_cons_zero, List.setIfInBounds_toArray, List.set_cons_zero, List.set_cons_succ]
  refine wpAnyH_take (i := 18) (oi := _) (v := undef) rfl (by kernel_rfl) (by kernel_rfl) (by kernel_rfl) (fun _ _ _ h => h) (Or.inr ⟨by rfl, rfl⟩) (by assumption) ?_
  try simp only [Act.put, List.getElem_toArray, List.getElem_cons_succ, List.getElem_cons_zero, List.setIfInBounds_toArray, List.set_cons_zero, List.set_cons_succ]
  refine wpAnyH_take (i := 19) (oi := _) (v := undef) rfl (by kernel_rfl) (by kernel_rfl) (by kernel_rfl) (fun _ _ _ h => h) (Or.inr ⟨by rfl, rfl⟩) (by assumption) ?_
  try simp only [Act.put, List.getElem_toArray, List.getElem_cons_succ, List.getElem_cons_zero, List.setIfInBounds_toArray, List.set_cons_zero, List.set_cons_succ]
  refine wpAnyH_take (i := 20) (oi := _) (v := undef) rfl (by kernel_rfl) (by kernel_rfl) (by kernel_rfl) (fun _ _ _ h => h) (Or.inr ⟨by rfl, rfl⟩) (by assumption) ?_
  try simp only [Act.put, List.getElem_toArray, List.getElem_cons_succ, List.getElem_cons_zero, List.setIfInBounds_toArray, List.set_cons_zero, List.set_cons_succ]
  refine wpAnyH_ready (rs := [21]) (by kernel_rfl) (by simp) ?_
  refine AllReadyH.cons (o := _) rfl (fun K hK => ?_) AllReadyH.nil
  go_simp
  refine hK.out _ _ ?_ (fun hHeld => ?_)
  · (first | (refine TOS.out _ ?_; first | with_reducible exact P4 | with_reducible exact P3 | with_reducible exact P2 | with_reducible exact P1 | with_reducible exact P0))
  clear hK K
  try simp only [Act.put, List.getElem_toArray, List.getElem_cons_succ, List.getElem_cons_zero, List.setIfInBounds_toArray, List.set_cons_zero, List.set_cons_succ]
  refine wpAnyH_take (i := 22) (oi := _) (v := ?v22) rfl (by kernel_rfl) (by kernel_rfl) (by kernel_rfl) (fun _ _ _ h => h) (Or.inl ⟨by rfl, ?hy22⟩) (by assumption) ?rest22
  case hy22 => (intro w hSw; (try dsimp only at hSw); go_simp <;> with_reducible rfl)
  try simp only [Act.put, List.getElem_toArray, List.getElem_cons_succ, List.getElem_cons_zero, List.setIfInBounds_toArray, List.set_cons_zero, List.set_cons_succ]
  refine wpAnyH_take (i := 23) (oi := _) (v := ?v23) rfl (by kernel_rfl) (by kernel_rfl) (by kernel_rfl) (fun _ _ _ h => h) (Or.inl ⟨by rfl, ?hy23⟩) (by assumption) ?rest23
  case hy23 => (intro w hSw; (try dsimp only at hSw); go_simp <;> with_reducible rfl)
  try simp only [Act.put, List.getElem_toArray, List.getElem_cons_succ, List.getElem_cons_zero, List.setIfInBounds_toArray, List.set_cons_zero, List.set_cons_succ]
  refine wpAnyH_take (i := 24) (oi := _) (v := undef) rfl (by kernel_rfl) (by kernel_rfl) (by kernel_rfl) (fun _ _ _ h => h) (Or.inr ⟨by rfl, rfl⟩) (by assumption) ?_
  try simp only [Act.put, List.getElem_toArray, List.getElem_cons_succ, List.getElem_cons_zero, List.setIfInBounds_toArray, List.set_cons_zero, List.set_cons_succ]
  refine wpAnyH_take (i := 25) (oi := _) (v := undef) rfl (by kernel_rfl) (by kernel_rfl) (by kernel_rfl) (fun _ _ _ h => h) (Or.inr ⟨by rfl, rfl⟩) (by assumption) ?_
  try simp only [Act.put, List.getElem_toArray, List.getElem_cons_succ, List.getElem_cons_zero, List.setIfInBounds_toArray, List.set_cons_zero, List.set_cons_succ]
  refine wpAnyH_take (i := 27) (oi := _) (v := undef) rfl (by kernel_rfl) (by kernel_rfl) (by kernel_rfl) (fun _ _ _ h => h) (Or.inr ⟨by rfl, rfl⟩) (by assumption) ?_
  try simp only [Act.put, List.getElem_toArray, List.getElem_cons_succ, List.getElem_cons_zero, List.setIfInBounds_toArray, List.set_cons_zero, List.set_cons_succ]
  refine wpAnyH_take (i := 28) (oi := _) (v := undef) rfl (by kernel_rfl) (by kernel_rfl) (by kernel_rfl) (fun _ _ _ h => h) (Or.inr ⟨by rfl, rfl⟩) (by assumption) ?_
  try simp only [Act.put, List.getElem_toArray, List.getElem_cons_succ, List.getElem_cons_zero, List.setIfInBounds_toArray, List.set_cons_zero, List.set_cons_succ]
  refine wpAnyH_take (i := 29) (oi := _) (v := undef) rfl (by kernel_rfl) (by kernel_rfl) (by kernel_rfl) (fun _ _ _ h => h) (Or.inr ⟨by rfl, rfl⟩) (by assumption) ?_
  try simp only [Act.put, List.getElem_toArray, List.getElem_cons_succ, List.getElem_cons_zero, List.setIfInBounds_toArray, List.set_cons_zero, List.set_cons_succ]
  refine wpAnyH_take (i := 30) (oi := _) (v := undef) rfl (by kernel_rfl) (by kernel_rfl) (by kernel_rfl) (fun _ _ _ h => h) (Or.inr ⟨by rfl, rfl⟩) (by assumption) ?_
  try simp only [Act.put, List.getElem_toArray, List.getElem_cons_succ, List.getElem_cons_zero, List.setIfInBounds_toArray, List.set_cons_zero, List.set_cons_succ]
  refine wpAnyH_take (i := 32) (oi := _) (v := undef) rfl (by kernel_rfl) (by kernel_rfl) (by kernel_rfl) (fun _ _ _ h => h) (Or.inr ⟨by rfl, rfl⟩) (by assumption) ?_
  try simp only [Act.put, List.getElem_toArray, List.getElem_cons_succ, List.getElem_cons_zero, List.setIfInBounds_toArray, List.set_cons_zero, List.set_cons_succ]
  refine wpAnyH_take (i := 33) (oi := _) (v := undef) rfl (by kernel_rfl) (by kernel_rfl) (by kernel_rfl) (fun _ _ _ h => h) (Or.inr ⟨by rfl, rfl⟩) (by assumption) ?_
  try simp only [Act.put, List.getElem_toArray, List.getElem_cons_succ, List.getElem_cons_zero, List.setIfInBounds_toArray, List.set_cons_zero, List.set_cons_succ]
  refine wpAnyH_ready (rs := [26]) (by kernel_rfl) (by simp) ?_
  refine AllReadyH.cons (o := _) rfl (fun K hK => ?_) AllReadyH.nil
  go_simp
  refine hK.out _ _ ?_ (fun hHeld => ?_)
  · (first | (refine TOS.out _ ?_; first | with_reducible exact P4 | with_reducible exact P3 | with_reducible exact P2 | with_reducible exact P1 | with_reducible exact P0))
  clear hK K
  try simp only [Act.put, List.getElem_toArray, List.getElem_cons_succ, List.getElem_cons_zero, List.setIfInBounds_toArray, List.set_cons_zero, List.set_cons_succ]
  refine wpAnyH_ready (rs := [31]) (by kernel_rfl) (by simp) ?_
  refine AllReadyH.cons (o := _) rfl (fun K hK => ?_) AllReadyH.nil
  go_simp
  refine hK.out _ _ ?_ (fun hHeld => ?_)
  · (first | (refine TOS.out _ ?_; first | with_reducible exact P4 | with_reducible exact P3 | with_reducible exact P2 | with_reducible exact P1 | with_reducible exact P0))
  clear hK K
  try simp only [Act.put, List.getElem_toArray, List.getElem_cons_succ, List.getElem_cons_zero, List.setIfInBounds_toArray, List.set_cons_zero, List.set_cons_succ]
  refine wpAnyH_ready (rs := [34]) (by kernel_rfl) (by simp) ?_
  refine AllReadyH.cons (o := _) rfl (fun K hK => ?_) AllReadyH.nil
  go_simp
  refine hK.out _ _ ?_ (fun hHeld => ?_)
  · (first | (refine TOS.out _ ?_; first | with_reducible exact P4 | with_reducible exact P3 | with_reducible exact P2 | with_reducible exact P1 | with_reducible exact P0))
  clear hK K
  try simp only [Act.put, List.getElem_toArray, List.getElem_cons_succ, List.getElem_cons_zero, List.setIfInBounds_toArray, List.set_cons_zero, List.set_cons_succ]
  refine wpAnyH_take (i := 35) (oi := _) (v := ?v35) rfl (by kernel_rfl) (by kernel_rfl) (by kernel_rfl) (fun _ _ _ h => h) (Or.inl ⟨by rfl, ?hy35⟩) (by assumption) ?rest35
  case hy35 => (intro w hSw; (try dsimp only at hSw); go_simp <;> with_reducible rfl)
  try simp only [Act.put, List.getElem_toArray, List.getElem_cons_succ, List.getElem_cons_zero, List.setIfInBounds_toArray, List.set_cons_zero, List.set_cons_succ]
  refine wpAnyH_take (i := 36) (oi := _) (v := ?v36) rfl (by kernel_rfl) (by kernel_rfl) (by kernel_rfl) (fun _ _ _ h => h) (Or.inl ⟨by rfl, ?hy36⟩) (by assumption) ?rest36
  case hy36 => (intro w hSw; (try dsimp only at hSw); go_simp <;> with_reducible rfl)
  try simp only [Act.put, List.getElem_toArray, List.getElem_cons_succ, List.getElem_cons_zero, List.setIfInBounds_toArray, List.set_cons_zero, List.set_cons_succ]
  refine wpAnyH_done (by kernel_rfl) ?_ _
  go_wp2
  go_ret
  exact ⟨by simp, hB.trans (P4.mono hzN)⟩

set_option maxRecDepth 100000 in
set_option maxHeartbeats 2000000 in
theorem there_2 (x0 y0 x1 y1 rt ys cs at4 : Int) (A1 A2 A3 A4 : Option Addr) (c1 c2 c3 c4 : Nat) (z1 z2 z3 z4 : List Int) (x y : Int) (w : World) (h : Hid (Okay x0 y0 x1 y1 rt ys cs at4 x y)) (hy : Hid (0 ≤ (y - y0) * ys + (x - x0) ∧ (y - y0) * ys + (x - x0) < z1.length)) (hc : Hid (0 ≤ chr x0 y0 rt cs x y ∧ chr x0 y0 rt cs x y < z2.length)) (hd : Hid (¬ (0 ≤ chr x0 y0 rt cs x y ∧ chr x0 y0 rt cs x y < z3.length))) :
    Calls Try.prog 14 #[.agg #[.int .i64 x0, .int .i64 y0, .int .i64 x1, .int .i64 y1, .int .i64 rt, .int .i64 ys, .int .i64 cs, .int .i64 at4, .slice A1 z1.length c1, .slice A2 z2.length c2, .slice A3 z3.length c3, .slice A4 z4.length c4], .int .i64 x, .int .i64 y] w fun e w' => e = .returned (.bool false) ∧ Below w.heap.size w w' := by
  have hB : Below w.heap.size w (w.alloc (.cells #[.int .i64 x0, .int .i64 y0, .int .i64 x1, .int .i64 y1, .int .i64 rt, .int .i64 ys, .int .i64 cs, .int .i64 at4, .slice A1 z1.length c1, .slice A2 z2.length c2, .slice A3 z3.length c3, .slice A4 z4.length c4] 30)) := (Below.refl _ _).alloc (Nat.le_refl _) _
  have D0 : (w.alloc (.cells #[.int .i64 x0, .int .i64 y0, .int .i64 x1, .int .i64 y1, .int .i64 rt, .int .i64 ys, .int .i64 cs, .int .i64 at4, .slice A1 z1.length c1, .slice A2 z2.length c2, .slice A3 z3.length c3, .slice A4 z4.length c4] 30)).cell? ⟨w.heap.size, 0, none⟩ = some (.int .i64 x0) := by first | (simp; done) | go_simp
  have D1 : (w.alloc (.cells #[.int .i64 x0, .int .i64 y0, .int .i64 x1, .int .i64 y1, .int .i64 rt, .int .i64 ys, .int .i64 cs, .int .i64 at4, .slice A1 z1.length c1, .slice A2 z2.length c2, .slice A3 z3.length c3, .slice A4 z4.length c4] 30)).cell? ⟨w.heap.size, 1, none⟩ = some (.int .i64 y0) := by first | (simp; done) | go_simp
  have D2 : (w.alloc (.cells #[.int .i64 x0, .int .i64 y0, .int .i64 x1, .int .i64 y1, .int .i64 rt, .int .i64 ys, .int .i64 cs, .int .i64 at4, .slice A1 z1.length c1, .slice A2 z2.length c2, .slice A3 z3.length c3, .slice A4 z4.length c4] 30)).cell? ⟨w.heap.size, 2, none⟩ = some (.int .i64 x1) := by first | (simp; done) | go_simp
  have D3 : (w.alloc (.cells #[.int .i64 x0, .int .i64 y0, .int .i64 x1, .int .i64 y1, .int .i64 rt, .int .i64 ys, .int .i64 cs, .int .i64 at4, .slice A1 z1.length c1, .slice A2 z2.length c2, .slice A3 z3.length c3, .slice A4 z4.length c4] 30)).cell? ⟨w.heap.size, 3, none⟩ = some (.int .i64 y1) := by first | (simp; done) | go_simp
  have D4 : (w.alloc (.cells #[.int .i64 x0, .int .i64 y0, .int .i64 x1, .int .i64 y1, .int .i64 rt, .int .i64 ys, .int .i64 cs, .int .i64 at4, .slice A1 z1.length c1, .slice A2 z2.length c2, .slice A3 z3.length c3, .slice A4 z4.length c4] 30)).cell? ⟨w.heap.size, 4, none⟩ = some (.int .i64 rt) := by first | (simp; done) | go_simp
  have D5 : (w.alloc (.cells #[.int .i64 x0, .int .i64 y0, .int .i64 x1, .int .i64 y1, .int .i64 rt, .int .i64 ys, .int .i64 cs, .int .i64 at4, .slice A1 z1.length c1, .slice A2 z2.length c2, .slice A3 z3.length c3, .slice A4 z4.length c4] 30)).cell? ⟨w.heap.size, 5, none⟩ = some (.int .i64 ys) := by first | (simp; done) | go_simp
  have D6 : (w.alloc (.cells #[.int .i64 x0, .int .i64 y0, .int .i64 x1, .int .i64 y1, .int .i64 rt, .int .i64 ys, .int .i64 cs, .int .i64 at4, .slice A1 z1.length c1, .slice A2 z2.length c2, .slice A3 z3.length c3, .slice A4 z4.length c4] 30)).cell? ⟨w.heap.size, 6, none⟩ = some (.int .i64 cs) := by first | (simp; done) | go_simp
  have D7 : (w.alloc (.cells #[.int .i64 x0, .int .i64 y0, .int .i64 x1, .int .i64 y1, .int .i64 rt, .int .i64 ys, .int .i64 cs, .int .i64 at4, .slice A1 z1.length c1, .slice A2 z2.length c2, .slice A3 z3.length c3, .slice A4 z4.length c4] 30)).cell? ⟨w.heap.size, 7, none⟩ = some (.int .i64 at4) := by first | (simp; done) | go_simp
  have D8 : (w.alloc (.cells #[.int .i64 x0, .int .i64 y0, .int .i64 x1, .int .i64 y1, .int .i64 rt, .int .i64 ys, .int .i64 cs, .int .i64 at4, .slice A1 z1.length c1, .slice A2 z2.length c2, .slice A3 z3.length c3, .slice A4 z4.length c4] 30)).cell? ⟨w.heap.size, 8, none⟩ = some (.slice A1 z1.length c1) := by first | (simp; done) | go_simp
  have D9 : (w.alloc (.cells #[.int .i64 x0, .int .i64 y0, .int .i64 x1, .int .i64 y1, .int .i64 rt, .int .i64 ys, .int .i64 cs, .int .i64 at4, .slice A1 z1.length c1, .slice A2 z2.length c2, .slice A3 z3.length c3, .slice A4 z4.length c4] 30)).cell? ⟨w.heap.size, 9, none⟩ = some (.slice A2 z2.length c2) := by first | (simp; done) | go_simp
  have D10 : (w.alloc (.cells #[.int .i64 x0, .int .i64 y0, .int .i64 x1, .int .i64 y1, .int .i64 rt, .int .i64 ys, .int .i64 cs, .int .i64 at4, .slice A1 z1.length c1, .slice A2 z2.length c2, .slice A3 z3.length c3, .slice A4 z4.length c4] 30)).cell? ⟨w.heap.size, 10, none⟩ = some (.slice A3 z3.length c3) := by first | (simp; done) | go_simp
  have D11 : (w.alloc (.cells #[.int .i64 x0, .int .i64 y0, .int .i64 x1, .int .i64 y1, .int .i64 rt, .int .i64 ys, .int .i64 cs, .int .i64 at4, .slice A1 z1.length c1, .slice A2 z2.length c2, .slice A3 z3.length c3, .slice A4 z4.length c4] 30)).cell? ⟨w.heap.size, 11, none⟩ = some (.slice A4 z4.length c4) := by first | (simp; done) | go_simp
  obtain ⟨_, _, _, _, _, _, b1, b2, b3, b4⟩ := h.out.nums
  obtain ⟨⟨p1, p2⟩, p3, p4⟩ := h.out.prods
  go_enter Try.func14, Try.ntmps14
  go_wp2_with fail
  generalize w.alloc (.cells #[.int .i64 x0, .int .i64 y0, .int .i64 x1, .int .i64 y1, .int .i64 rt, .int .i64 ys, .int .i64 cs, .int .i64 at4, .slice A1 z1.length c1, .slice A2 z2.length c2, .slice A3 z3.length c3, .slice A4 z4.length c4] 30) = W0 at *
  go_wp2_with fail
  refine (chroma_any x0 y0 x1 y1 rt ys cs at4 A1 A2 A3 A4 c1 c2 c3 c4 z1 z2 z3 z4 x y _ h).mono ?_
  rintro e w1 ⟨rfl, hb1⟩
  replace D0 := cell_kept D0 hb1
  replace D1 := cell_kept D1 hb1
  replace D2 := cell_kept D2 hb1
  replace D3 := cell_kept D3 hb1
  replace D4 := cell_kept D4 hb1
  replace D5 := cell_kept D5 hb1
  replace D6 := cell_kept D6 hb1
  replace D7 := cell_kept D7 hb1
  replace D8 := cell_kept D8 hb1
  replace D9 := cell_kept D9 hb1
  replace D10 := cell_kept D10 hb1
  replace D11 := cell_kept D11 hb1
  replace hB := hB.trans (hb1.mono hB.size)
  clear hb1
  generalize chr x0 y0 rt cs x y = ch at *
  have P0 : Below w1.heap.size w1 w1.drew := (Below.refl _ _).drew
  have toS : ∀ W' : World, Below w1.heap.size w1 W' → (W'.cell? ⟨w.heap.size, 0, none⟩ = some (.int .i64 x0) ∧ W'.cell? ⟨w.heap.size, 1, none⟩ = some (.int .i64 y0) ∧ W'.cell? ⟨w.heap.size, 2, none⟩ = some (.int .i64 x1) ∧ W'.cell? ⟨w.heap.size, 3, none⟩ = some (.int .i64 y1) ∧ W'.cell? ⟨w.heap.size, 4, none⟩ = some (.int .i64 rt) ∧ W'.cell? ⟨w.heap.size, 5, none⟩ = some (.int .i64 ys) ∧ W'.cell? ⟨w.heap.size, 6, none⟩ = some (.int .i64 cs) ∧ W'.cell? ⟨w.heap.size, 7, none⟩ = some (.int .i64 at4) ∧ W'.cell? ⟨w.heap.size, 8, none⟩ = some (.slice A1 z1.length c1) ∧ W'.cell? ⟨w.heap.size, 9, none⟩ = some (.slice A2 z2.length c2) ∧ W'.cell? ⟨w.heap.size, 10, none⟩ = some (.slice A3 z3.length c3) ∧ W'.cell? ⟨w.heap.size, 11, none⟩ = some (.slice A4 z4.length c4)) := fun W' h => ⟨cell_kept D0 h, cell_kept D1 h, cell_kept D2 h, cell_kept D3 h, cell_kept D4 h, cell_kept D5 h, cell_kept D6 h, cell_kept D7 h, cell_kept D8 h, cell_kept D9 h, cell_kept D10 h, cell_kept D11 h⟩
  have TOS := Lib.hid toS
  clear toS
  have hzN := hB.size
  go_wp2_with fail
  refine wp_region_held_drew (S := fun w' => w'.cell? ⟨w.heap.size, 0, none⟩ = some (.int .i64 x0) ∧ w'.cell? ⟨w.heap.size, 1, none⟩ = some (.int .i64 y0) ∧ w'.cell? ⟨w.heap.size, 2, none⟩ = some (.int .i64 x1) ∧ w'.cell? ⟨w.heap.size, 3, none⟩ = some (.int .i64 y1) ∧ w'.cell? ⟨w.heap.size, 4, none⟩ = some (.int .i64 rt) ∧ w'.cell? ⟨w.heap.size, 5, none⟩ = some (.int .i64 ys) ∧ w'.cell? ⟨w.heap.size, 6, none⟩ = some (.int .i64 cs) ∧ w'.cell? ⟨w.heap.size, 7, none⟩ = some (.int .i64 at4) ∧ w'.cell? ⟨w.heap.size, 8, none⟩ = some (.slice A1 z1.length c1) ∧ w'.cell? ⟨w.heap.size, 9, none⟩ = some (.slice A2 z2.length c2) ∧ w'.cell? ⟨w.heap.size, 10, none⟩ = some (.slice A3 z3.length c3) ∧ w'.cell? ⟨w.heap.size, 11, none⟩ = some (.slice A4 z4.length c4)) (by kernel_rfl) ?_ (fun hHeld => ?_)
  · (first | (refine TOS.out _ ?_; first | with_reducible exact P5 | with_reducible exact P4 | with_reducible exact P3 | with_reducible exact P2 | with_reducible exact P1 | with_reducible exact P0))
  refine wpAnyH_take (i := 0) (oi := _) (v := ?v0) rfl (by kernel_rfl) (by kernel_rfl) (by kernel_rfl) (fun _ _ _ h => h) (Or.inl ⟨by rfl, ?hy0⟩) (by assumption) ?rest0
  case hy0 => (intro w hSw; (try dsimp only at hSw); go_simp <;> with_reducible rfl)
  try simp only [Act.put, List.getElem_toArray, List.getElem_cons_succ, List.getElem_cons_zero, List.setIfInBounds_toArray, List.set_cons_zero, List.set_cons_succ]
  refine wpAnyH_take (i := 1) (oi := _) (v := ?v1) rfl (by kernel_rfl) (by kernel_rfl) (by kernel_rfl) (fun _ _ _ h => h) (Or.inl ⟨by rfl, ?hy1⟩) (by assumption) ?rest1
  case hy1 => (intro w hSw; (try dsimp only at hSw); go_simp <;> with_reducible rfl)
  try simp only [Act.put, List.getElem_toArray, List.getElem_cons_succ, List.getElem_cons_zero, List.setIfInBounds_toArray, List.set_cons_zero, List.set_cons_succ]
  refine wpAnyH_take (i := 3) (oi := _) (v := ?v3) rfl (by kernel_rfl) (by kernel_rfl) (by kernel_rfl) (fun _ _ _ h => h) (Or.inl ⟨by rfl, ?hy3⟩) (by assumption) ?rest3
  case hy3 => (intro w hSw; (try dsimp only at hSw); go_simp <;> with_reducible rfl)
  try simp only [Act.put, List.getElem_toArray, List.getElem_cons_succ, List.getElem_cons_zero, List.setIfInBounds_toArray, List.set_cons_zero, List.set_cons_succ]
  refine wpAnyH_take (i := 4) (oi := _) (v := ?v4) rfl (by kernel_rfl) (by kernel_rfl) (by kernel_rfl) (fun _ _ _ h => h) (Or.inl ⟨by rfl, ?hy4⟩) (by assumption) ?rest4
  case hy4 => (intro w hSw; (try dsimp only at hSw); go_simp <;> with_reducible rfl)
  try simp only [Act.put, List.getElem_toArray, List.getElem_cons_succ, List.getElem_cons_zero, List.setIfInBounds_toArray, List.set_cons_zero, List.set_cons_succ]
  refine wpAnyH_take (i := 5) (oi := _) (v := ?v5) rfl (by kernel_rfl) (by kernel_rfl) (by kernel_rfl) (fun _ _ _ h => h) (Or.inl ⟨by rfl, ?hy5⟩) (by assumption) ?rest5
  case hy5 => (intro w hSw; (try dsimp only at hSw); go_simp <;> with_reducible rfl)
  try simp only [Act.put, List.getElem_toArray, List.getElem_cons_succ, List.getElem_cons_zero, List.setIfInBounds_toArray, List.set_cons_zero, List.set_cons_succ]
  refine wpAnyH_take (i := 6) (oi := _) (v := ?v6) rfl (by kernel_rfl) (by kernel_rfl) (by kernel_rfl) (fun _ _ _ h => h) (Or.inl ⟨by rfl, ?hy6⟩) (by assumption) ?rest6
  case hy6 => (intro w hSw; (try dsimp only at hSw); go_simp <;> with_reducible rfl)
  try simp only [Act.put, List.getElem_toArray, List.getElem_cons_succ, List.getElem_cons_zero, List.setIfInBounds_toArray, List.set_cons_zero, List.set_cons_succ]
  refine wpAnyH_take (i := 8) (oi := _) (v := ?v8) rfl (by kernel_rfl) (by kernel_rfl) (by kernel_rfl) (fun _ _ _ h => h) (Or.inl ⟨by rfl, ?hy8⟩) (by assumption) ?rest8
  case hy8 => (intro w hSw; (try dsimp only at hSw); go_simp <;> with_reducible rfl)
  try simp only [Act.put, List.getElem_toArray, List.getElem_cons_succ, List.getElem_cons_zero, List.setIfInBounds_toArray, List.set_cons_zero, List.set_cons_succ]
  refine wpAnyH_take (i := 9) (oi := _) (v := ?v9) rfl (by kernel_rfl) (by kernel_rfl) (by kernel_rfl) (fun _ _ _ h => h) (Or.inl ⟨by rfl, ?hy9⟩) (by assumption) ?rest9
  case hy9 => (intro w hSw; (try dsimp only at hSw); go_simp <;> with_reducible rfl)
  try simp only [Act.put, List.getElem_toArray, List.getElem_cons_succ, List.getElem_cons_zero, List.setIfInBounds_toArray, List.set_cons_zero, List.set_cons_succ]
  refine wpAnyH_ready (rs := [2]) (by kernel_rfl) (by simp) ?_
  refine AllReadyH.cons (o := _) rfl (fun K hK => ?_) AllReadyH.nil
  go_simp
  (go_at_call 11; refine (box_any x0 y0 x1 y1 _).mono ?_; rintro e v1 ⟨rfl, hq1⟩; have P1 : Below w1.heap.size w1 v1 := P0.trans (hq1.mono P0.size))
  refine hK.out _ _ ?_ (fun hHeld => ?_)
  · (first | (refine TOS.out _ ?_; first | with_reducible exact P5 | with_reducible exact P4 | with_reducible exact P3 | with_reducible exact P2 | with_reducible exact P1 | with_reducible exact P0))
  clear hK K
  try simp only [Act.put, List.getElem_toArray, List.getElem_cons_succ, List.getElem_cons_zero, List.setIfInBounds_toArray, List.set_cons_zero, List.set_cons_succ]
  refine wpAnyH_ready (rs := [7]) (by kernel_rfl) (by simp) ?_
  refine AllReadyH.cons (o := _) rfl (fun K hK => ?_) AllReadyH.nil
  go_simp
  (go_at_call 23; refine (offs_any x0 y0 x1 y1 ys x y _ b1 b2 b3 b4 p1 p2).mono ?_; rintro e v2 ⟨rfl, hq2⟩; rw [Int.mul_one]; have P2 : Below w1.heap.size w1 v2 := P1.trans (hq2.mono P1.size))
  refine hK.out _ _ ?_ (fun hHeld => ?_)
  · (first | (refine TOS.out _ ?_; first | with_reducible exact P5 | with_reducible exact P4 | with_reducible exact P3 | with_reducible exact P2 | with_reducible exact P1 | with_reducible exact P0))
  clear hK K
  try simp only [Act.put, List.getElem_toArray, List.getElem_cons_succ, List.getElem_cons_zero, List.setIfInBounds_toArray, List.set_cons_zero, List.set_cons_succ]
  refine wpAnyH_ready (rs := [10]) (by kernel_rfl) (by simp) ?_
  refine AllReadyH.cons (o := _) rfl (fun K hK => ?_) AllReadyH.nil
  go_simp
  (go_at_call 35; refine (among_any ((y - y0) * ys + (x - x0)) A1 z1.length c1 true (iff_of_true rfl hy.out) _).mono ?_; rintro e v3 ⟨rfl, rfl⟩; have P3 := P2)
  refine hK.out _ _ ?_ (fun hHeld => ?_)
  · (first | (refine TOS.out _ ?_; first | with_reducible exact P5 | with_reducible exact P4 | with_reducible exact P3 | with_reducible exact P2 | with_reducible exact P1 | with_reducible exact P0))
  clear hK K
  try simp only [Act.put, List.getElem_toArray, List.getElem_cons_succ, List.getElem_cons_zero, List.setIfInBounds_toArray, List.set_cons_zero, List.set_cons_succ]
  refine wpAnyH_take (i := 11) (oi := _) (v := ?v11) rfl (by kernel_rfl) (by kernel_rfl) (by kernel_rfl) (fun _ _ _ h => h) (Or.inl ⟨by rfl, ?hy11⟩) (by assumption) ?rest11
  case hy11 => (intro w hSw; (try dsimp only at hSw); go_simp <;> with_reducible rfl)
  try simp only [Act.put, List.getElem_toArray, List.getElem_cons_succ, List.getElem_cons_zero, List.setIfInBounds_toArray, List.set_cons_zero, List.set_cons_succ]
  refine wpAnyH_take (i := 12) (oi := _) (v := ?v12) rfl (by kernel_rfl) (by kernel_rfl) (by kernel_rfl) (fun _ _ _ h => h) (Or.inl ⟨by rfl, ?hy12⟩) (by assumption) ?rest12
  case hy12 => (intro w hSw; (try dsimp only at hSw); go_simp <;> with_reducible rfl)
  try simp only [Act.put, List.getElem_toArray, List.getElem_cons_succ, List.getElem_cons_zero, List.setIfInBounds_toArray, List.set_cons_zero, List.set_cons_succ]
  refine wpAnyH_take (i := 13) (oi := _) (v := ?v13) rfl (by kernel_rfl) (by kernel_rfl) (by kernel_rfl) (fun _ _ _ h => h) (Or.inl ⟨by rfl, ?hy13⟩) (by assumption) ?rest13
  case hy13 => (intro w hSw; (try dsimp only at hSw); go_simp <;> with_reducible rfl)
  try simp only [Act.put, List.getElem_toArray, List.getElem_cons_succ, List.getElem_cons_zero, List.setIfInBounds_toArray, List.set_cons_zero, List.set_cons_succ]
  refine wpAnyH_take (i := 14) (oi := _) (v := ?v14) rfl (by kernel_rfl) (by kernel_rfl) (by kernel_rfl) (fun _ _ _ h => h) (Or.inl ⟨by rfl, ?hy14⟩) (by assumption) ?rest14
  case hy14 => (intro w hSw; (try dsimp only at hSw); go_simp <;> with_reducible rfl)
  try simp only [Act.put, List.getElem_toArray, List.getElem_cons_succ, List.getElem_cons_zero, List.setIfInBounds_toArray, List.set_cons_zero, List.set_cons_succ]
  refine wpAnyH_ready (rs := [15]) (by kernel_rfl) (by simp) ?_
  refine AllReadyH.cons (o := _) rfl (fun K hK => ?_) AllReadyH.nil
  go_simp
  (go_at_call 35; refine (among_any (ch) A2 z2.length c2 true (iff_of_true rfl hc.out) _).mono ?_; rintro e v4 ⟨rfl, rfl⟩; have P4 := P3)
  refine hK.out _ _ ?_ (fun hHeld => ?_)
  · (first | (refine TOS.out _ ?_; first | with_reducible exact P5 | with_reducible exact P4 | with_reducible exact P3 | with_reducible exact P2 | with_reducible exact P1 | with_reducible exact P0))
  clear hK K
  try simp only [Act.put, List.getElem_toArray, List.getElem_cons_succ, List.getElem_cons_zero, List.setIfInBounds_toArray, List.set_cons_zero, List.set_cons_succ]
  refine wpAnyH_take (i := 16) (oi := _) (v := ?v16) rfl (by kernel_rfl) (by kernel_rfl) (by kernel_rfl) (fun _ _ _ h => h) (Or.inl ⟨by rfl, ?hy16⟩) (by assumption) ?rest16
  case hy16 => (intro w hSw; (try dsimp only at hSw); go_simp <;> with_reducible rfl)
  try simp only [Act.put, List.getElem_toArray, List.getElem_cons_succ, List.getElem_cons_zero, List.setIfInBounds_toArray, List.set_cons_zero, List.set_cons_succ]
  refine wpAnyH_take (i := 17) (oi := _) (v := ?v17) rfl (by kernel_rfl) (by kernel_rfl) (by kernel_rfl) (fun _ _ _ h => h) (Or.inl ⟨by rfl, ?hy17⟩) (by assumption) ?rest17
  case hy17 => (intro w hSw; (try dsimp only at hSw); go_simp <;> with_reducible rfl)
  try simp only [Act.put, List.getElem_toArray, List.getElem_cons_succ, List.getElem_cons_zero, List.setIfInBounds_toArray, List.set_cons_zero, List.set_cons_succ]
  refine wpAnyH_take (i := 18) (oi := _) (v := ?v18) rfl (by kernel_rfl) (by kernel_rfl) (by kernel_rfl) (fun _ _ _ h => h) (Or.inl ⟨by rfl, ?hy18⟩) (by assumption) ?rest18
  case hy18 => (intro w hSw; (try dsimp only at hSw); go_simp <;> with_reducible rfl)
  try simp only [Act.put, List.getElem_toArray, List.getElem_cons_succ, List.getElem_cons_zero, List.setIfInBounds_toArray, List.set_cons_zero, List.set_cons_succ]
  refine wpAnyH_take (i := 19) (oi := _) (v := ?v19) rfl (by kernel_rfl) (by kernel_rfl) (by kernel_rfl) (fun _ _ _ h => h) (Or.inl ⟨by rfl, ?hy19⟩) (by assumption) ?rest19
  case hy19 => (intro w hSw; (try dsimp only at hSw); go_simp <;> with_reducible rfl)
  try simp only [Act.put, List.getElem_toArray, List.getElem_cons_succ, List.getElem_cons_zero, List.setIfInBounds_toArray, List.set_cons_zero, List.set_cons_succ]
  refine wpAnyH_take (i := 20) (oi := _) (v := ?v20) rfl (by kernel_rfl) (by kernel_rfl) (by kernel_rfl) (fun _ _ _ h => h) (Or.inl ⟨by rfl, ?hy20⟩) (by assumption) ?rest20
  case hy20 => (intro w hSw; (try dsimp only at hSw); go_simp <;> with_reducible rfl)
  try simp only [Act.put, List.getElem_toArray, List.getElem_cons_succ, List.getElem_cons_zero, List.setIfInBounds_toArray, List.set_cons_zero, List.set_cons_succ]
  refine wpAnyH_ready (rs := [21]) (by kernel_rfl) (by simp) ?_
  refine AllReadyH.cons (o := _) rfl (fun K hK => ?_) AllReadyH.nil
  go_simp
  (go_at_call 35; refine (among_any (ch) A3 z3.length c3 false (by have := hd.out; simp only [this]; simp) _).mono ?_; rintro e v5 ⟨rfl, rfl⟩; have P5 := P4)
  refine hK.out _ _ ?_ (fun hHeld => ?_)
  · (first | (refine TOS.out _ ?_; first | with_reducible exact P5 | with_reducible exact P4 | with_reducible exact P3 | with_reducible exact P2 | with_reducible exact P1 | with_reducible exact P0))
  clear hK K
  try simp only [Act.put, List.getElem_toArray, List.getElem_cons_succ, List.getElem_cons_zero, List.setIfInBounds_toArray, List.set_cons_zero, List.set_cons_succ]
  refine wpAnyH_take (i := 22) (oi := _) (v := ?v22) rfl (by kernel_rfl) (by kernel_rfl) (by kernel_rfl) (fun _ _ _ h => h) (Or.inl ⟨by rfl, ?hy22⟩) (by assumption) ?rest22
  case hy22 => (intro w hSw; (try dsimp only at hSw); go_simp <;> with_reducible rfl)
  try simp only [Act.put, List.getElem_toArray, List.getElem_cons_succ, List.getElem_cons_zero, List.setIfInBounds_toArray, List.set_cons_zero, List.set_cons_succ]
  refine wpAnyH_take (i := 23) (oi := _) (v := ?v23) rfl (by kernel_rfl) (by kernel_rfl) (by kernel_rfl) (fun _ _ _ h => h) (Or.inl ⟨by rfl, ?hy23⟩) (by assumption) ?rest23
  case hy23 => (intro w hSw; (try dsimp only at hSw); go_simp <;> with_reducible rfl)
  try simp only [Act.put, List.getElem_toArray, List.getElem_cons_succ, List.getElem_cons_zero, List.setIfInBounds_toArray, List.set_cons_zero, List.set_cons_succ]
  refine wpAnyH_take (i := 24) (oi := _) (v := undef) rfl (by kernel_rfl) (by kernel_rfl) (by kernel_rfl) (fun _ _ _ h => h) (Or.inr ⟨by rfl, rfl⟩) (by assumption) ?_
  try simp only [Act.put, List.getElem_toArray, List.getElem_cons_succ, List.getElem_cons_zero, List.setIfInBounds_toArray, List.set_cons_zero, List.set_cons_succ]
  refine wpAnyH_take (i := 25) (oi := _) (v := undef) rfl (by kernel_rfl) (by kernel_rfl) (by kernel_rfl) (fun _ _ _ h => h) (Or.inr ⟨by rfl, rfl⟩) (by assumption) ?_
  try simp only [Act.put, List.getElem_toArray, List.getElem_cons_succ, List.getElem_cons_zero, List.setIfInBounds_toArray, List.set_cons_zero, List.set_cons_succ]
  refine wpAnyH_take (i := 27) (oi := _) (v := undef) rfl (by kernel_rfl) (by kernel_rfl) (by kernel_rfl) (fun _ _ _ h => h) (Or.inr ⟨by rfl, rfl⟩) (by assumption) ?_
  try simp only [Act.put, List.getElem_toArray, List.getElem_cons_succ, List.getElem_cons_zero, List.setIfInBounds_toArray, List.set_cons_zero, List.set_cons_succ]
  refine wpAnyH_take (i := 28) (oi := _) (v := undef) rfl (by kernel_rfl) (by kernel_rfl) (by kernel_rfl) (fun _ _ _ h => h) (Or.inr ⟨by rfl, rfl⟩) (by assumption) ?_
  try simp only [Act.put, List.getElem_toArray, List.getElem_cons_succ, List.getElem_cons_zero, List.setIfInBounds_toArray, List.set_cons_zero, List.set_cons_succ]
  refine wpAnyH_take (i := 29) (oi := _) (v := undef) rfl (by kernel_rfl) (by kernel_rfl) (by kernel_rfl) (fun _ _ _ h => h) (Or.inr ⟨by rfl, rfl⟩) (by assumption) ?_
  try simp only [Act.put, List.getElem_toArray, List.getElem_cons_succ, List.getElem_cons_zero, List.setIfInBounds_toArray, List.set_cons_zero, List.set_cons_succ]
  refine wpAnyH_take (i := 30) (oi := _) (v := undef) rfl (by kernel_rfl) (by kernel_rfl) (by kernel_rfl) (fun _ _ _ h => h) (Or.inr ⟨by rfl, rfl⟩) (by assumption) ?_
  try simp only [Act.put, List.getElem_toArray, List.getElem_cons_succ, List.getElem_cons_zero, List.setIfInBounds_toArray, List.set_cons_zero, List.set_cons_succ]
  refine wpAnyH_take (i := 32) (oi := _) (v := undef) rfl (by kernel_rfl) (by kernel_rfl) (by kernel_rfl) (fun _ _ _ h => h) (Or.inr ⟨by rfl, rfl⟩) (by assumption) ?_
  try simp only [Act.put, List.getElem_toArray, List.getElem_cons_succ, List.getElem_cons_zero, List.setIfInBounds_toArray, List.set_cons_zero, List.set_cons_succ]
  refine wpAnyH_take (i := 33) (oi := _) (v := undef) rfl (by kernel_rfl) (by kernel_rfl) (by kernel_rfl) (fun _ _ _ h => h) (Or.inr ⟨by rfl, rfl⟩) (by assumption) ?_
  try simp only [Act.put, List.getElem_toArray, List.getElem_cons_succ, List.getElem_cons_zero, List.setIfInBounds_toArray, List.set_cons_zero, List.set_cons_succ]
  refine wpAnyH_ready (rs := [26]) (by kernel_rfl) (by simp) ?_
  refine AllReadyH.cons (o := _) rfl (fun K hK => ?_) AllReadyH.nil
  go_simp
  refine hK.out _ _ ?_ (fun hHeld => ?_)
  · (first | (refine TOS.out _ ?_; first | with_reducible exact P5 | with_reducible exact P4 | with_reducible exact P3 | with_reducible exact P2 | with_reducible exact P1 | with_reducible exact P0))
  clear hK K
  try simp only [Act.put, List.getElem_toArray, List.getElem_cons_succ, List.getElem_cons_zero, List.setIfInBounds_toArray, List.set_cons_zero, List.set_cons_succ]
  refine wpAnyH_ready (rs := [31]) (by kernel_rfl) (by simp) ?_
  refine AllReadyH.cons (o := _) rfl (fun K hK => ?_) AllReadyH.nil
  go_simp
  refine hK.out _ _ ?_ (fun hHeld => ?_)
  · (first | (refine TOS.out _ ?_; first | with_reducible exact P5 | with_reducible exact P4 | with_reducible exact P3 | with_reducible exact P2 | with_reducible exact P1 | with_reducible exact P0))
  clear hK K
  try simp only [Act.put, List.getElem_toArray, List.getElem_cons_succ, List.getElem_cons_zero, List.setIfInBounds_toArray, List.set_cons_zero, List.set_cons_succ]
  refine wpAnyH_ready (rs := [34]) (by kernel_rfl) (by simp) ?_
  refine AllReadyH.cons (o := _) rfl (fun K hK => ?_) AllReadyH.nil
  go_simp
  refine hK.out _ _ ?_ (fun hHeld => ?_)
  · (first | (refine TOS.out _ ?_; first | with_reducible exact P5 | with_reducible exact P4 | with_reducible exact P3 | with_reducible exact P2 | with_reducible exact P1 | with_reducible exact P0))
  clear hK K
  try simp only [Act.put, List.getElem_toArray, List.getElem_cons_succ, List.getElem_cons_zero, List.setIfInBounds_toArray, List.set_cons_zero, List.set_cons_succ]
  refine wpAnyH_take (i := 35) (oi := _) (v := ?v35) rfl (by kernel_rfl) (by kernel_rfl) (by kernel_rfl) (fun _ _ _ h => h) (Or.inl ⟨by rfl, ?hy35⟩) (by assumption) ?rest35
  case hy35 => (intro w hSw; (try dsimp only at hSw); go_simp <;> with_reducible rfl)
  try simp only [Act.put, List.getElem_toArray, List.getElem_cons_succ, List.getElem_cons_zero, List.setIfInBounds_toArray, List.set_cons_zero, List.set_cons_succ]
  refine wpAnyH_take (i := 36) (oi := _) (v := ?v36) rfl (by kernel_rfl) (by kernel_rfl) (by kernel_rfl) (fun _ _ _ h => h) (Or.inl ⟨by rfl, ?hy36⟩) (by assumption) ?rest36
  case hy36 => (intro w hSw; (try dsimp only at hSw); go_simp <;> with_reducible rfl)
  try simp only [Act.put, List.getElem_toArray, List.getElem_cons_succ, List.getElem_cons_zero, List.setIfInBounds_toArray, List.set_cons_zero, List.set_cons_succ]
  refine wpAnyH_done (by kernel_rfl) ?_ _
  go_wp2
  go_ret
  exact ⟨by simp, hB.trans (P5.mono hzN)⟩

set_option maxRecDepth 100000 in
set_option maxHeartbeats 2000000 in
theorem there_3 (x0 y0 x1 y1 rt ys cs at4 : Int) (A1 A2 A3 A4 : Option Addr) (c1 c2 c3 c4 : Nat) (z1 z2 z3 z4 : List Int) (x y : Int) (w : World) (h : Hid (Okay x0 y0 x1 y1 rt ys cs at4 x y)) (hy : Hid (0 ≤ (y - y0) * ys + (x - x0) ∧ (y - y0) * ys + (x - x0) < z1.length)) (hc : Hid (0 ≤ chr x0 y0 rt cs x y ∧ chr x0 y0 rt cs x y < z2.length)) (hd : Hid (0 ≤ chr x0 y0 rt cs x y ∧ chr x0 y0 rt cs x y < z3.length)) (b : Bool) (ha : Hid (b = true ↔ (0 ≤ (y - y0) * at4 + (x - x0) ∧ (y - y0) * at4 + (x - x0) < z4.length))) :
    Calls Try.prog 14 #[.agg #[.int .i64 x0, .int .i64 y0, .int .i64 x1, .int .i64 y1, .int .i64 rt, .int .i64 ys, .int .i64 cs, .int .i64 at4, .slice A1 z1.length c1, .slice A2 z2.length c2, .slice A3 z3.length c3, .slice A4 z4.length c4], .int .i64 x, .int .i64 y] w fun e w' => e = .returned (.bool b) ∧ Below w.heap.size w w' := by
  have hB : Below w.heap.size w (w.alloc (.cells #[.int .i64 x0, .int .i64 y0, .int .i64 x1, .int .i64 y1, .int .i64 rt, .int .i64 ys, .int .i64 cs, .int .i64 at4, .slice A1 z1.length c1, .slice A2 z2.length c2, .slice A3 z3.length c3, .slice A4 z4.length c4] 30)) := (Below.refl _ _).alloc (Nat.le_refl _) _
  have D0 : (w.alloc (.cells #[.int .i64 x0, .int .i64 y0, .int .i64 x1, .int .i64 y1, .int .i64 rt, .int .i64 ys, .int .i64 cs, .int .i64 at4, .slice A1 z1.length c1, .slice A2 z2.length c2, .slice A3 z3.length c3, .slice A4 z4.length c4] 30)).cell? ⟨w.heap.size, 0, none⟩ = some (.int .i64 x0) := by first | (simp; done) | go_simp
  have D1 : (w.alloc (.cells #[.int .i64 x0, .int .i64 y0, .int .i64 x1, .int .i64 y1, .int .i64 rt, .int .i64 ys, .int .i64 cs, .int .i64 at4, .slice A1 z1.length c1, .slice A2 z2.length c2, .slice A3 z3.length c3, .slice A4 z4.length c4] 30)).cell? ⟨w.heap.size, 1, none⟩ = some (.int .i64 y0) := by first | (simp; done) | go_simp
  have D2 : (w.alloc (.cells #[.int .i64 x0, .int .i64 y0, .int .i64 x1, .int .i64 y1, .int .i64 rt, .int .i64 ys, .int .i64 cs, .int .i64 at4, .slice A1 z1.length c1, .slice A2 z2.length c2, .slice A3 z3.length c3, .slice A4 z4.length c4] 30)).cell? ⟨w.heap.size, 2, none⟩ = some (.int .i64 x1) := by first | (simp; done) | go_simp
  have D3 : (w.alloc (.cells #[.int .i64 x0, .int .i64 y0, .int .i64 x1, .int .i64 y1, .int .i64 rt, .int .i64 ys, .int .i64 cs, .int .i64 at4, .slice A1 z1.length c1, .slice A2 z2.length c2, .slice A3 z3.length c3, .slice A4 z4.length c4] 30)).cell? ⟨w.heap.size, 3, none⟩ = some (.int .i64 y1) := by first | (simp; done) | go_simp
  have D4 : (w.alloc (.cells #[.int .i64 x0, .int .i64 y0, .int .i64 x1, .int .i64 y1, .int .i64 rt, .int .i64 ys, .int .i64 cs, .int .i64 at4, .slice A1 z1.length c1, .slice A2 z2.length c2, .slice A3 z3.length c3, .slice A4 z4.length c4] 30)).cell? ⟨w.heap.size, 4, none⟩ = some (.int .i64 rt) := by first | (simp; done) | go_simp
  have D5 : (w.alloc (.cells #[.int .i64 x0, .int .i64 y0, .int .i64 x1, .int .i64 y1, .int .i64 rt, .int .i64 ys, .int .i64 cs, .int .i64 at4, .slice A1 z1.length c1, .slice A2 z2.length c2, .slice A3 z3.length c3, .slice A4 z4.length c4] 30)).cell? ⟨w.heap.size, 5, none⟩ = some (.int .i64 ys) := by first | (simp; done) | go_simp
  have D6 : (w.alloc (.cells #[.int .i64 x0, .int .i64 y0, .int .i64 x1, .int .i64 y1, .int .i64 rt, .int .i64 ys, .int .i64 cs, .int .i64 at4, .slice A1 z1.length c1, .slice A2 z2.length c2, .slice A3 z3.length c3, .slice A4 z4.length c4] 30)).cell? ⟨w.heap.size, 6, none⟩ = some (.int .i64 cs) := by first | (simp; done) | go_simp
  have D7 : (w.alloc (.cells #[.int .i64 x0, .int .i64 y0, .int .i64 x1, .int .i64 y1, .int .i64 rt, .int .i64 ys, .int .i64 cs, .int .i64 at4, .slice A1 z1.length c1, .slice A2 z2.length c2, .slice A3 z3.length c3, .slice A4 z4.length c4] 30)).cell? ⟨w.heap.size, 7, none⟩ = some (.int .i64 at4) := by first | (simp; done) | go_simp
  have D8 : (w.alloc (.cells #[.int .i64 x0, .int .i64 y0, .int .i64 x1, .int .i64 y1, .int .i64 rt, .int .i64 ys, .int .i64 cs, .int .i64 at4, .slice A1 z1.length c1, .slice A2 z2.length c2, .slice A3 z3.length c3, .slice A4 z4.length c4] 30)).cell? ⟨w.heap.size, 8, none⟩ = some (.slice A1 z1.length c1) := by first | (simp; done) | go_simp
  have D9 : (w.alloc (.cells #[.int .i64 x0, .int .i64 y0, .int .i64 x1, .int .i64 y1, .int .i64 rt, .int .i64 ys, .int .i64 cs, .int .i64 at4, .slice A1 z1.length c1, .slice A2 z2.length c2, .slice A3 z3.length c3, .slice A4 z4.length c4] 30)).cell? ⟨w.heap.size, 9, none⟩ = some (.slice A2 z2.length c2) := by first | (simp; done) | go_simp
  have D10 : (w.alloc (.cells #[.int .i64 x0, .int .i64 y0, .int .i64 x1, .int .i64 y1, .int .i64 rt, .int .i64 ys, .int .i64 cs, .int .i64 at4, .slice A1 z1.length c1, .slice A2 z2.length c2, .slice A3 z3.length c3, .slice A4 z4.length c4] 30)).cell? ⟨w.heap.size, 10, none⟩ = some (.slice A3 z3.length c3) := by first | (simp; done) | go_simp
  have D11 : (w.alloc (.cells #[.int .i64 x0, .int .i64 y0, .int .i64 x1, .int .i64 y1, .int .i64 rt, .int .i64 ys, .int .i64 cs, .int .i64 at4, .slice A1 z1.length c1, .slice A2 z2.length c2, .slice A3 z3.length c3, .slice A4 z4.length c4] 30)).cell? ⟨w.heap.size, 11, none⟩ = some (.slice A4 z4.length c4) := by first | (simp; done) | go_simp
  obtain ⟨_, _, _, _, _, _, b1, b2, b3, b4⟩ := h.out.nums
  obtain ⟨⟨p1, p2⟩, p3, p4⟩ := h.out.prods
  go_enter Try.func14, Try.ntmps14
  go_wp2_with fail
  generalize w.alloc (.cells #[.int .i64 x0, .int .i64 y0, .int .i64 x1, .int .i64 y1, .int .i64 rt, .int .i64 ys, .int .i64 cs, .int .i64 at4, .slice A1 z1.length c1, .slice A2 z2.length c2, .slice A3 z3.length c3, .slice A4 z4.length c4] 30) = W0 at *
  go_wp2_with fail
  refine (chroma_any x0 y0 x1 y1 rt ys cs at4 A1 A2 A3 A4 c1 c2 c3 c4 z1 z2 z3 z4 x y _ h).mono ?_
  rintro e w1 ⟨rfl, hb1⟩
  replace D0 := cell_kept D0 hb1
  replace D1 := cell_kept D1 hb1
  replace D2 := cell_kept D2 hb1
  replace D3 := cell_kept D3 hb1
  replace D4 := cell_kept D4 hb1
  replace D5 := cell_kept D5 hb1
  replace D6 := cell_kept D6 hb1
  replace D7 := cell_kept D7 hb1
  replace D8 := cell_kept D8 hb1
  replace D9 := cell_kept D9 hb1
  replace D10 := cell_kept D10 hb1
  replace D11 := cell_kept D11 hb1
  replace hB := hB.trans (hb1.mono hB.size)
  clear hb1
  generalize chr x0 y0 rt cs x y = ch at *
  have P0 : Below w1.heap.size w1 w1.drew := (Below.refl _ _).drew
  have toS : ∀ W' : World, Below w1.heap.size w1 W' → (W'.cell? ⟨w.heap.size, 0, none⟩ = some (.int .i64 x0) ∧ W'.cell? ⟨w.heap.size, 1, none⟩ = some (.int .i64 y0) ∧ W'.cell? ⟨w.heap.size, 2, none⟩ = some (.int .i64 x1) ∧ W'.cell? ⟨w.heap.size, 3, none⟩ = some (.int .i64 y1) ∧ W'.cell? ⟨w.heap.size, 4, none⟩ = some (.int .i64 rt) ∧ W'.cell? ⟨w.heap.size, 5, none⟩ = some (.int .i64 ys) ∧ W'.cell? ⟨w.heap.size, 6, none⟩ = some (.int .i64 cs) ∧ W'.cell? ⟨w.heap.size, 7, none⟩ = some (.int .i64 at4) ∧ W'.cell? ⟨w.heap.size, 8, none⟩ = some (.slice A1 z1.length c1) ∧ W'.cell? ⟨w.heap.size, 9, none⟩ = some (.slice A2 z2.length c2) ∧ W'.cell? ⟨w.heap.size, 10, none⟩ = some (.slice A3 z3.length c3) ∧ W'.cell? ⟨w.heap.size, 11, none⟩ = some (.slice A4 z4.length c4)) := fun W' h => ⟨cell_kept D0 h, cell_kept D1 h, cell_kept D2 h, cell_kept D3 h, cell_kept D4 h, cell_kept D5 h, cell_kept D6 h, cell_kept D7 h, cell_kept D8 h, cell_kept D9 h, cell_kept D10 h, cell_kept D11 h⟩
  have TOS := Lib.hid toS
  clear toS
  have hzN := hB.size
  go_wp2_with fail
  refine wp_region_held_drew (S := fun w' => w'.cell? ⟨w.heap.size, 0, none⟩ = some (.int .i64 x0) ∧ w'.cell? ⟨w.heap.size, 1, none⟩ = some (.int .i64 y0) ∧ w'.cell? ⟨w.heap.size, 2, none⟩ = some (.int .i64 x1) ∧ w'.cell? ⟨w.heap.size, 3, none⟩ = some (.int .i64 y1) ∧ w'.cell? ⟨w.heap.size, 4, none⟩ = some (.int .i64 rt) ∧ w'.cell? ⟨w.heap.size, 5, none⟩ = some (.int .i64 ys) ∧ w'.cell? ⟨w.heap.size, 6, none⟩ = some (.int .i64 cs) ∧ w'.cell? ⟨w.heap.size, 7, none⟩ = some (.int .i64 at4) ∧ w'.cell? ⟨w.heap.size, 8, none⟩ = some (.slice A1 z1.length c1) ∧ w'.cell? ⟨w.heap.size, 9, none⟩ = some (.slice A2 z2.length c2) ∧ w'.cell? ⟨w.heap.size, 10, none⟩ = some (.slice A3 z3.length c3) ∧ w'.cell? ⟨w.heap.size, 11, none⟩ = some (.slice A4 z4.length c4)) (by kernel_rfl) ?_ (fun hHeld => ?_)
  · (first | (refine TOS.out _ ?_; first | with_reducible exact P8 | with_reducible exact P7 | with_reducible exact P6 | with_reducible exact P5 | with_reducible exact P4 | with_reducible exact P3 | with_reducible exact P2 | with_reducible exact P1 | with_reducible exact P0))
  refine wpAnyH_take (i := 0) (oi := _) (v := ?v0) rfl (by kernel_rfl) (by kernel_rfl) (by kernel_rfl) (fun _ _ _ h => h) (Or.inl ⟨by rfl, ?hy0⟩) (by assumption) ?rest0
  case hy0 => (intro w hSw; (try dsimp only at hSw); go_simp <;> with_reducible rfl)
  try simp only [Act.put, List.getElem_toArray, List.getElem_cons_succ, List.getElem_cons_zero, List.setIfInBounds_toArray, List.set_cons_zero, List.set_cons_succ]
  refine wpAnyH_take (i := 1) (oi := _) (v := ?v1) rfl (by kernel_rfl) (by kernel_rfl) (by kernel_rfl) (fun _ _ _ h => h) (Or.inl ⟨by rfl, ?hy1⟩) (by assumption) ?rest1
  case hy1 => (intro w hSw; (try dsimp only at hSw); go_simp <;> with_reducible rfl)
  try simp only [Act.put, List.getElem_toArray, List.getElem_cons_succ, List.getElem_cons_zero, List.setIfInBounds_toArray, List.set_cons_zero, List.set_cons_succ]
  refine wpAnyH_take (i := 3) (oi := _) (v := ?v3) rfl (by kernel_rfl) (by kernel_rfl) (by kernel_rfl) (fun _ _ _ h => h) (Or.inl ⟨by rfl, ?hy3⟩) (by assumption) ?rest3
  case hy3 => (intro w hSw; (try dsimp only at hSw); go_simp <;> with_reducible rfl)
  try simp only [Act.put, List.getElem_toArray, List.getElem_cons_succ, List.getElem_cons_zero, List.setIfInBounds_toArray, List.set_cons_zero, List.set_cons_succ]
  refine wpAnyH_take (i := 4) (oi := _) (v := ?v4) rfl (by kernel_rfl) (by kernel_rfl) (by kernel_rfl) (fun _ _ _ h => h) (Or.inl ⟨by rfl, ?hy4⟩) (by assumption) ?rest4
  case hy4 => (intro w hSw; (try dsimp only at hSw); go_simp <;> with_reducible rfl)
  try simp only [Act.put, List.getElem_toArray, List.getElem_cons_succ, List.getElem_cons_zero, List.setIfInBounds_toArray, List.set_cons_zero, List.set_cons_succ]
  refine wpAnyH_take (i := 5) (oi := _) (v := ?v5) rfl (by kernel_rfl) (by kernel_rfl) (by kernel_rfl) (fun _ _ _ h => h) (Or.inl ⟨by rfl, ?hy5⟩) (by assumption) ?rest5
  case hy5 => (intro w hSw; (try dsimp only at hSw); go_simp <;> with_reducible rfl)
  try simp only [Act.put, List.getElem_toArray, List.getElem_cons_succ, List.getElem_cons_zero, List.setIfInBounds_toArray, List.set_cons_zero, List.set_cons_succ]
  refine wpAnyH_take (i := 6) (oi := _) (v := ?v6) rfl (by kernel_rfl) (by kernel_rfl) (by kernel_rfl) (fun _ _ _ h => h) (Or.inl ⟨by rfl, ?hy6⟩) (by assumption) ?rest6
  case hy6 => (intro w hSw; (try dsimp only at hSw); go_simp <;> with_reducible rfl)
  try simp only [Act.put, List.getElem_toArray, List.getElem_cons_succ, List.getElem_cons_zero, List.setIfInBounds_toArray, List.set_cons_zero, List.set_cons_succ]
  refine wpAnyH_take (i := 8) (oi := _) (v := ?v8) rfl (by kernel_rfl) (by kernel_rfl) (by kernel_rfl) (fun _ _ _ h => h) (Or.inl ⟨by rfl, ?hy8⟩) (by assumption) ?rest8
  case hy8 => (intro w hSw; (try dsimp only at hSw); go_simp <;> with_reducible rfl)
  try simp only [Act.put, List.getElem_toArray, List.getElem_cons_succ, List.getElem_cons_zero, List.setIfInBounds_toArray, List.set_cons_zero, List.set_cons_succ]
  refine wpAnyH_take (i := 9) (oi := _) (v := ?v9) rfl (by kernel_rfl) (by kernel_rfl) (by kernel_rfl) (fun _ _ _ h => h) (Or.inl ⟨by rfl, ?hy9⟩) (by assumption) ?rest9
  case hy9 => (intro w hSw; (try dsimp only at hSw); go_simp <;> with_reducible rfl)
  try simp only [Act.put, List.getElem_toArray, List.getElem_cons_succ, List.getElem_cons_zero, List.setIfInBounds_toArray, List.set_cons_zero, List.set_cons_succ]
  refine wpAnyH_ready (rs := [2]) (by kernel_rfl) (by simp) ?_
  refine AllReadyH.cons (o := _) rfl (fun K hK => ?_) AllReadyH.nil
  go_simp
  (go_at_call 11; refine (box_any x0 y0 x1 y1 _).mono ?_; rintro e v1 ⟨rfl, hq1⟩; have P1 : Below w1.heap.size w1 v1 := P0.trans (hq1.mono P0.size))
  refine hK.out _ _ ?_ (fun hHeld => ?_)
  · (first | (refine TOS.out _ ?_; first | with_reducible exact P8 | with_reducible exact P7 | with_reducible exact P6 | with_reducible exact P5 | with_reducible exact P4 | with_reducible exact P3 | with_reducible exact P2 | with_reducible exact P1 | with_reducible exact P0))
  clear hK K
  try simp only [Act.put, List.getElem_toArray, List.getElem_cons_succ, List.getElem_cons_zero, List.setIfInBounds_toArray, List.set_cons_zero, List.set_cons_succ]
  refine wpAnyH_ready (rs := [7]) (by kernel_rfl) (by simp) ?_
  refine AllReadyH.cons (o := _) rfl (fun K hK => ?_) AllReadyH.nil
  go_simp
  (go_at_call 23; refine (offs_any x0 y0 x1 y1 ys x y _ b1 b2 b3 b4 p1 p2).mono ?_; rintro e v2 ⟨rfl, hq2⟩; rw [Int.mul_one]; have P2 : Below w1.heap.size w1 v2 := P1.trans (hq2.mono P1.size))
  refine hK.out _ _ ?_ (fun hHeld => ?_)
  · (first | (refine TOS.out _ ?_; first | with_reducible exact P8 | with_reducible exact P7 | with_reducible exact P6 | with_reducible exact P5 | with_reducible exact P4 | with_reducible exact P3 | with_reducible exact P2 | with_reducible exact P1 | with_reducible exact P0))
  clear hK K
  try simp only [Act.put, List.getElem_toArray, List.getElem_cons_succ, List.getElem_cons_zero, List.setIfInBounds_toArray, List.set_cons_zero, List.set_cons_succ]
  refine wpAnyH_ready (rs := [10]) (by kernel_rfl) (by simp) ?_
  refine AllReadyH.cons (o := _) rfl (fun K hK => ?_) AllReadyH.nil
  go_simp
  (go_at_call 35; refine (among_any ((y - y0) * ys + (x - x0)) A1 z1.length c1 true (iff_of_true rfl hy.out) _).mono ?_; rintro e v3 ⟨rfl, rfl⟩; have P3 := P2)
  refine hK.out _ _ ?_ (fun hHeld => ?_)
  · (first | (refine TOS.out _ ?_; first | with_reducible exact P8 | with_reducible exact P7 | with_reducible exact P6 | with_reducible exact P5 | with_reducible exact P4 | with_reducible exact P3 | with_reducible exact P2 | with_reducible exact P1 | with_reducible exact P0))
  clear hK K
  try simp only [Act.put, List.getElem_toArray, List.getElem_cons_succ, List.getElem_cons_zero, List.setIfInBounds_toArray, List.set_cons_zero, List.set_cons_succ]
  refine wpAnyH_take (i := 11) (oi := _) (v := ?v11) rfl (by kernel_rfl) (by kernel_rfl) (by kernel_rfl) (fun _ _ _ h => h) (Or.inl ⟨by rfl, ?hy11⟩) (by assumption) ?rest11
  case hy11 => (intro w hSw; (try dsimp only at hSw); go_simp <;> with_reducible rfl)
  try simp only [Act.put, List.getElem_toArray, List.getElem_cons_succ, List.getElem_cons_zero, List.setIfInBounds_toArray, List.set_cons_zero, List.set_cons_succ]
  refine wpAnyH_take (i := 12) (oi := _) (v := ?v12) rfl (by kernel_rfl) (by kernel_rfl) (by kernel_rfl) (fun _ _ _ h => h) (Or.inl ⟨by rfl, ?hy12⟩) (by assumption) ?rest12
  case hy12 => (intro w hSw; (try dsimp only at hSw); go_simp <;> with_reducible rfl)
  try simp only [Act.put, List.getElem_toArray, List.getElem_cons_succ, List.getElem_cons_zero, List.setIfInBounds_toArray, List.set_cons_zero, List.set_cons_succ]
  refine wpAnyH_take (i := 13) (oi := _) (v := ?v13) rfl (by kernel_rfl) (by kernel_rfl) (by kernel_rfl) (fun _ _ _ h => h) (Or.inl ⟨by rfl, ?hy13⟩) (by assumption) ?rest13
  case hy13 => (intro w hSw; (try dsimp only at hSw); go_simp <;> with_reducible rfl)
  try simp only [Act.put, List.getElem_toArray, List.getElem_cons_succ, List.getElem_cons_zero, List.setIfInBounds_toArray, List.set_cons_zero, List.set_cons_succ]
  refine wpAnyH_take (i := 14) (oi := _) (v := ?v14) rfl (by kernel_rfl) (by kernel_rfl) (by kernel_rfl) (fun _ _ _ h => h) (Or.inl ⟨by rfl, ?hy14⟩) (by assumption) ?rest14
  case hy14 => (intro w hSw; (try dsimp only at hSw); go_simp <;> with_reducible rfl)
  try simp only [Act.put, List.getElem_toArray, List.getElem_cons_succ, List.getElem_cons_zero, List.setIfInBounds_toArray, List.set_cons_zero, List.set_cons_succ]
  refine wpAnyH_ready (rs := [15]) (by kernel_rfl) (by simp) ?_
  refine AllReadyH.cons (o := _) rfl (fun K hK => ?_) AllReadyH.nil
  go_simp
  (go_at_call 35; refine (among_any (ch) A2 z2.length c2 true (iff_of_true rfl hc.out) _).mono ?_; rintro e v4 ⟨rfl, rfl⟩; have P4 := P3)
  refine hK.out _ _ ?_ (fun hHeld => ?_)
  · (first | (refine TOS.out _ ?_; first | with_reducible exact P8 | with_reducible exact P7 | with_reducible exact P6 | with_reducible exact P5 | with_reducible exact P4 | with_reducible exact P3 | with_reducible exact P2 | with_reducible exact P1 | with_reducible exact P0))
  clear hK K
  try simp only [Act.put, List.getElem_toArray, List.getElem_cons_succ, List.getElem_cons_zero, List.setIfInBounds_toArray, List.set_cons_zero, List.set_cons_succ]
  refine wpAnyH_take (i := 16) (oi := _) (v := ?v16) rfl (by kernel_rfl) (by kernel_rfl) (by kernel_rfl) (fun _ _ _ h => h) (Or.inl ⟨by rfl, ?hy16⟩) (by assumption) ?rest16
  case hy16 => (intro w hSw; (try dsimp only at hSw); go_simp <;> with_reducible rfl)
  try simp only [Act.put, List.getElem_toArray, List.getElem_cons_succ, List.getElem_cons_zero, List.setIfInBounds_toArray, List.set_cons_zero, List.set_cons_succ]
  refine wpAnyH_take (i := 17) (oi := _) (v := ?v17) rfl (by kernel_rfl) (by kernel_rfl) (by kernel_rfl) (fun _ _ _ h => h) (Or.inl ⟨by rfl, ?hy17⟩) (by assumption) ?rest17
  case hy17 => (intro w hSw; (try dsimp only at hSw); go_simp <;> with_reducible rfl)
  try simp only [Act.put, List.getElem_toArray, List.getElem_cons_succ, List.getElem_cons_zero, List.setIfInBounds_toArray, List.set_cons_zero, List.set_cons_succ]
  refine wpAnyH_take (i := 18) (oi := _) (v := ?v18) rfl (by kernel_rfl) (by kernel_rfl) (by kernel_rfl) (fun _ _ _ h => h) (Or.inl ⟨by rfl, ?hy18⟩) (by assumption) ?rest18
  case hy18 => (intro w hSw; (try dsimp only at hSw); go_simp <;> with_reducible rfl)
  try simp only [Act.put, List.getElem_toArray, List.getElem_cons_succ, List.getElem_cons_zero, List.setIfInBounds_toArray, List.set_cons_zero, List.set_cons_succ]
  refine wpAnyH_take (i := 19) (oi := _) (v := ?v19) rfl (by kernel_rfl) (by kernel_rfl) (by kernel_rfl) (fun _ _ _ h => h) (Or.inl ⟨by rfl, ?hy19⟩) (by assumption) ?rest19
  case hy19 => (intro w hSw; (try dsimp only at hSw); go_simp <;> with_reducible rfl)
  try simp only [Act.put, List.getElem_toArray, List.getElem_cons_succ, List.getElem_cons_zero, List.setIfInBounds_toArray, List.set_cons_zero, List.set_cons_succ]
  refine wpAnyH_take (i := 20) (oi := _) (v := ?v20) rfl (by kernel_rfl) (by kernel_rfl) (by kernel_rfl) (fun _ _ _ h => h) (Or.inl ⟨by rfl, ?hy20⟩) (by assumption) ?rest20
  case hy20 => (intro w hSw; (try dsimp only at hSw); go_simp <;> with_reducible rfl)
  try simp only [Act.put, List.getElem_toArray, List.getElem_cons_succ, List.getElem_cons_zero, List.setIfInBounds_toArray, List.set_cons_zero, List.set_cons_succ]
  refine wpAnyH_ready (rs := [21]) (by kernel_rfl) (by simp) ?_
  refine AllReadyH.cons (o := _) rfl (fun K hK => ?_) AllReadyH.nil
  go_simp
  (go_at_call 35; refine (among_any (ch) A3 z3.length c3 true (iff_of_true rfl hd.out) _).mono ?_; rintro e v5 ⟨rfl, rfl⟩; have P5 := P4)
  refine hK.out _ _ ?_ (fun hHeld => ?_)
  · (first | (refine TOS.out _ ?_; first | with_reducible exact P8 | with_reducible exact P7 | with_reducible exact P6 | with_reducible exact P5 | with_reducible exact P4 | with_reducible exact P3 | with_reducible exact P2 | with_reducible exact P1 | with_reducible exact P0))
  clear hK K
  try simp only [Act.put, List.getElem_toArray, List.getElem_cons_succ, List.getElem_cons_zero, List.setIfInBounds_toArray, List.set_cons_zero, List.set_cons_succ]
  refine wpAnyH_take (i := 22) (oi := _) (v := ?v22) rfl (by kernel_rfl) (by kernel_rfl) (by kernel_rfl) (fun _ _ _ h => h) (Or.inl ⟨by rfl, ?hy22⟩) (by assumption) ?rest22
  case hy22 => (intro w hSw; (try dsimp only at hSw); go_simp <;> with_reducible rfl)
  try simp only [Act.put, List.getElem_toArray, List.getElem_cons_succ, List.getElem_cons_zero, List.setIfInBounds_toArray, List.set_cons_zero, List.set_cons_succ]
  refine wpAnyH_take (i := 23) (oi := _) (v := ?v23) rfl (by kernel_rfl) (by kernel_rfl) (by kernel_rfl) (fun _ _ _ h => h) (Or.inl ⟨by rfl, ?hy23⟩) (by assumption) ?rest23
  case hy23 => (intro w hSw; (try dsimp only at hSw); go_simp <;> with_reducible rfl)
  try simp only [Act.put, List.getElem_toArray, List.getElem_cons_succ, List.getElem_cons_zero, List.setIfInBounds_toArray, List.set_cons_zero, List.set_cons_succ]
  refine wpAnyH_take (i := 24) (oi := _) (v := ?v24) rfl (by kernel_rfl) (by kernel_rfl) (by kernel_rfl) (fun _ _ _ h => h) (Or.inl ⟨by rfl, ?hy24⟩) (by assumption) ?rest24
  case hy24 => (intro w hSw; (try dsimp only at hSw); go_simp <;> with_reducible rfl)
  try simp only [Act.put, List.getElem_toArray, List.getElem_cons_succ, List.getElem_cons_zero, List.setIfInBounds_toArray, List.set_cons_zero, List.set_cons_succ]
  refine wpAnyH_take (i := 25) (oi := _) (v := ?v25) rfl (by kernel_rfl) (by kernel_rfl) (by kernel_rfl) (fun _ _ _ h => h) (Or.inl ⟨by rfl, ?hy25⟩) (by assumption) ?rest25
  case hy25 => (intro w hSw; (try dsimp only at hSw); go_simp <;> with_reducible rfl)
  try simp only [Act.put, List.getElem_toArray, List.getElem_cons_succ, List.getElem_cons_zero, List.setIfInBounds_toArray, List.set_cons_zero, List.set_cons_succ]
  refine wpAnyH_take (i := 27) (oi := _) (v := ?v27) rfl (by kernel_rfl) (by kernel_rfl) (by kernel_rfl) (fun _ _ _ h => h) (Or.inl ⟨by rfl, ?hy27⟩) (by assumption) ?rest27
  case hy27 => (intro w hSw; (try dsimp only at hSw); go_simp <;> with_reducible rfl)
  try simp only [Act.put, List.getElem_toArray, List.getElem_cons_succ, List.getElem_cons_zero, List.setIfInBounds_toArray, List.set_cons_zero, List.set_cons_succ]
  refine wpAnyH_take (i := 28) (oi := _) (v := ?v28) rfl (by kernel_rfl) (by kernel_rfl) (by kernel_rfl) (fun _ _ _ h => h) (Or.inl ⟨by rfl, ?hy28⟩) (by assumption) ?rest28
  case hy28 => (intro w hSw; (try dsimp only at hSw); go_simp <;> with_reducible rfl)
  try simp only [Act.put, List.getElem_toArray, List.getElem_cons_succ, List.getElem_cons_zero, List.setIfInBounds_toArray, List.set_cons_zero, List.set_cons_succ]
  refine wpAnyH_take (i := 29) (oi := _) (v := ?v29) rfl (by kernel_rfl) (by kernel_rfl) (by kernel_rfl) (fun _ _ _ h => h) (Or.inl ⟨by rfl, ?hy29⟩) (by assumption) ?rest29
  case hy29 => (intro w hSw; (try dsimp only at hSw); go_simp <;> with_reducible rfl)
  try simp only [Act.put, List.getElem_toArray, List.getElem_cons_succ, List.getElem_cons_zero, List.setIfInBounds_toArray, List.set_cons_zero, List.set_cons_succ]
  refine wpAnyH_take (i := 30) (oi := _) (v := ?v30) rfl (by kernel_rfl) (by kernel_rfl) (by kernel_rfl) (fun _ _ _ h => h) (Or.inl ⟨by rfl, ?hy30⟩) (by assumption) ?rest30
  case hy30 => (intro w hSw; (try dsimp only at hSw); go_simp <;> with_reducible rfl)
  try simp only [Act.put, List.getElem_toArray, List.getElem_cons_succ, List.getElem_cons_zero, List.setIfInBounds_toArray, List.set_cons_zero, List.set_cons_succ]
  refine wpAnyH_take (i := 32) (oi := _) (v := ?v32) rfl (by kernel_rfl) (by kernel_rfl) (by kernel_rfl) (fun _ _ _ h => h) (Or.inl ⟨by rfl, ?hy32⟩) (by assumption) ?rest32
  case hy32 => (intro w hSw; (try dsimp only at hSw); go_simp <;> with_reducible rfl)
  try simp only [Act.put, List.getElem_toArray, List.getElem_cons_succ, List.getElem_cons_zero, List.setIfInBounds_toArray, List.set_cons_zero, List.set_cons_succ]
  refine wpAnyH_take (i := 33) (oi := _) (v := ?v33) rfl (by kernel_rfl) (by kernel_rfl) (by kernel_rfl) (fun _ _ _ h => h) (Or.inl ⟨by rfl, ?hy33⟩) (by assumption) ?rest33
  case hy33 => (intro w hSw; (try dsimp only at hSw); go_simp <;> with_reducible rfl)
  try simp only [Act.put, List.getElem_toArray, List.getElem_cons_succ, List.getElem_cons_zero, List.setIfInBounds_toArray, List.set_cons_zero, List.set_cons_succ]
  refine wpAnyH_ready (rs := [26]) (by kernel_rfl) (by simp) ?_
  refine AllReadyH.cons (o := _) rfl (fun K hK => ?_) AllReadyH.nil
  go_simp
  (go_at_call 11; refine (box_any x0 y0 x1 y1 _).mono ?_; rintro e v6 ⟨rfl, hq6⟩; have P6 : Below w1.heap.size w1 v6 := P5.trans (hq6.mono P5.size))
  refine hK.out _ _ ?_ (fun hHeld => ?_)
  · (first | (refine TOS.out _ ?_; first | with_reducible exact P8 | with_reducible exact P7 | with_reducible exact P6 | with_reducible exact P5 | with_reducible exact P4 | with_reducible exact P3 | with_reducible exact P2 | with_reducible exact P1 | with_reducible exact P0))
  clear hK K
  try simp only [Act.put, List.getElem_toArray, List.getElem_cons_succ, List.getElem_cons_zero, List.setIfInBounds_toArray, List.set_cons_zero, List.set_cons_succ]
  refine wpAnyH_ready (rs := [31]) (by kernel_rfl) (by simp) ?_
  refine AllReadyH.cons (o := _) rfl (fun K hK => ?_) AllReadyH.nil
  go_simp
  (go_at_call 23; refine (offs_any x0 y0 x1 y1 at4 x y _ b1 b2 b3 b4 p3 p4).mono ?_; rintro e v7 ⟨rfl, hq7⟩; rw [Int.mul_one]; have P7 : Below w1.heap.size w1 v7 := P6.trans (hq7.mono P6.size))
  refine hK.out _ _ ?_ (fun hHeld => ?_)
  · (first | (refine TOS.out _ ?_; first | with_reducible exact P8 | with_reducible exact P7 | with_reducible exact P6 | with_reducible exact P5 | with_reducible exact P4 | with_reducible exact P3 | with_reducible exact P2 | with_reducible exact P1 | with_reducible exact P0))
  clear hK K
  try simp only [Act.put, List.getElem_toArray, List.getElem_cons_succ, List.getElem_cons_zero, List.setIfInBounds_toArray, List.set_cons_zero, List.set_cons_succ]
  refine wpAnyH_ready (rs := [34]) (by kernel_rfl) (by simp) ?_
  refine AllReadyH.cons (o := _) rfl (fun K hK => ?_) AllReadyH.nil
  go_simp
  (go_at_call 35; refine (among_any ((y - y0) * at4 + (x - x0)) A4 z4.length c4 b (ha.out) _).mono ?_; rintro e v8 ⟨rfl, rfl⟩; have P8 := P7)
  refine hK.out _ _ ?_ (fun hHeld => ?_)
  · (first | (refine TOS.out _ ?_; first | with_reducible exact P8 | with_reducible exact P7 | with_reducible exact P6 | with_reducible exact P5 | with_reducible exact P4 | with_reducible exact P3 | with_reducible exact P2 | with_reducible exact P1 | with_reducible exact P0))
  clear hK K
  try simp only [Act.put, List.getElem_toArray, List.getElem_cons_succ, List.getElem_cons_zero, List.setIfInBounds_toArray, List.set_cons_zero, List.set_cons_succ]
  refine wpAnyH_take (i := 35) (oi := _) (v := ?v35) rfl (by kernel_rfl) (by kernel_rfl) (by kernel_rfl) (fun _ _ _ h => h) (Or.inl ⟨by rfl, ?hy35⟩) (by assumption) ?rest35
  case hy35 => (intro w hSw; (try dsimp only at hSw); go_simp <;> with_reducible rfl)
  try simp only [Act.put, List.getElem_toArray, List.getElem_cons_succ, List.getElem_cons_zero, List.setIfInBounds_toArray, List.set_cons_zero, List.set_cons_succ]
  refine wpAnyH_take (i := 36) (oi := _) (v := ?v36) rfl (by kernel_rfl) (by kernel_rfl) (by kernel_rfl) (fun _ _ _ h => h) (Or.inl ⟨by rfl, ?hy36⟩) (by assumption) ?rest36
  case hy36 => (intro w hSw; (try dsimp only at hSw); go_simp <;> with_reducible rfl)
  try simp only [Act.put, List.getElem_toArray, List.getElem_cons_succ, List.getElem_cons_zero, List.setIfInBounds_toArray, List.set_cons_zero, List.set_cons_succ]
  refine wpAnyH_done (by kernel_rfl) ?_ _
  go_wp2
  go_ret
  exact ⟨by simp, hB.trans (P8.mono hzN)⟩

theorem there_any (x0 y0 x1 y1 rt ys cs at4 : Int) (A1 A2 A3 A4 : Option Addr) (c1 c2 c3 c4 : Nat) (z1 z2 z3 z4 : List Int) (x y : Int) (w : World) (h : Hid (Okay x0 y0 x1 y1 rt ys cs at4 x y)) (b : Bool) (hb : b = true ↔ Ther x0 y0 rt ys cs at4 z1.length z2.length z3.length z4.length x y) :
    Calls Try.prog 14 #[.agg #[.int .i64 x0, .int .i64 y0, .int .i64 x1, .int .i64 y1, .int .i64 rt, .int .i64 ys, .int .i64 cs, .int .i64 at4, .slice A1 z1.length c1, .slice A2 z2.length c2, .slice A3 z3.length c3, .slice A4 z4.length c4], .int .i64 x, .int .i64 y] w fun e w' => e = .returned (.bool b) ∧ Below w.heap.size w w' := by
  have no : ¬ Ther x0 y0 rt ys cs at4 z1.length z2.length z3.length z4.length x y → b = false := fun h => by cases b with | false => rfl | true => exact absurd (hb.1 rfl) h
  by_cases hy : 0 ≤ (y - y0) * ys + (x - x0) ∧ (y - y0) * ys + (x - x0) < z1.length
  · by_cases hc : 0 ≤ chr x0 y0 rt cs x y ∧ chr x0 y0 rt cs x y < z2.length
    · by_cases hd : 0 ≤ chr x0 y0 rt cs x y ∧ chr x0 y0 rt cs x y < z3.length
      · exact there_3 x0 y0 x1 y1 rt ys cs at4 A1 A2 A3 A4 c1 c2 c3 c4 z1 z2 z3 z4 x y w h hy hc hd b (show _ ↔ _ from hb.trans ⟨fun h => ⟨h.a0', h.a1'⟩, fun ha => ⟨hy.1, hy.2, hc.1, hc.2, hd.2, ha.1, ha.2⟩⟩)
      · rw [no (fun h => hd ⟨h.c0', h.c2'⟩)]
        exact there_2 x0 y0 x1 y1 rt ys cs at4 A1 A2 A3 A4 c1 c2 c3 c4 z1 z2 z3 z4 x y w h hy hc hd
    · rw [no (fun h => hc ⟨h.c0', h.c1'⟩)]
      exact there_1 x0 y0 x1 y1 rt ys cs at4 A1 A2 A3 A4 c1 c2 c3 c4 z1 z2 z3 z4 x y w h hy hc
  · rw [no (fun h => hy ⟨h.y0', h.y1'⟩)]
    exact there_0 x0 y0 x1 y1 rt ys cs at4 A1 A2 A3 A4 c1 c2 c3 c4 z1 z2 z3 z4 x y w h hy

end Go.Proofs.Ytcomldkihibfjaa
