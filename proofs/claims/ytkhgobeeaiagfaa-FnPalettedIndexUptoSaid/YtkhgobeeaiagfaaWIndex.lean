/- The walk of the law FnPalettedIndex. -/
import Derived.Test.YtkhgobeeaiagfaaIndex
namespace Go.Proofs.Ytkhgobeeaiagfaa
open Go.RowKit
set_option linter.unusedVariables false
set_option linter.unusedSimpArgs false


set_option maxRecDepth 100000 in
set_option maxHeartbeats 2000000 in
theorem idx_unfit (x0 y0 x1 y1 s : Int) (A : Option Addr) (c : Nat) (zs : List Int) (B : Option Addr) (k : Nat) (ps : List (Int × Int × Int × Int)) (x y : Int) (w : World) (hr : Hid (Reads w A zs)) (hl : Small zs) (hn : Hid (A = none → c = 0)) (pr : Hid (PReads w B ps)) (pl : (ps.length : Int) ≤ 2097152) (hF : Hid (¬ Fits x0 y0 x1 y1 s 1 zs.length)) :
    Calls Try.prog 5 #[.agg #[.int .i64 x0, .int .i64 y0, .int .i64 x1, .int .i64 y1, .int .i64 s, .slice A zs.length c, .slice B ps.length k], .int .i64 x, .int .i64 y] w fun e w' => e = .returned (.bool true) ∧ Below w.heap.size w w' := by
  have hB : Below w.heap.size w (w.alloc (.cells #[.int .i64 x0, .int .i64 y0, .int .i64 x1, .int .i64 y1, .int .i64 s, .slice A zs.length c, .slice B ps.length k] 27)) := (Below.refl _ _).alloc (Nat.le_refl _) _
  have D0 : (w.alloc (.cells #[.int .i64 x0, .int .i64 y0, .int .i64 x1, .int .i64 y1, .int .i64 s, .slice A zs.length c, .slice B ps.length k] 27)).cell? ⟨w.heap.size, 0, none⟩ = some (.int .i64 x0) := by first | (simp; done) | go_simp
  have D1 : (w.alloc (.cells #[.int .i64 x0, .int .i64 y0, .int .i64 x1, .int .i64 y1, .int .i64 s, .slice A zs.length c, .slice B ps.length k] 27)).cell? ⟨w.heap.size, 1, none⟩ = some (.int .i64 y0) := by first | (simp; done) | go_simp
  have D2 : (w.alloc (.cells #[.int .i64 x0, .int .i64 y0, .int .i64 x1, .int .i64 y1, .int .i64 s, .slice A zs.length c, .slice B ps.length k] 27)).cell? ⟨w.heap.size, 2, none⟩ = some (.int .i64 x1) := by first | (simp; done) | go_simp
  have D3 : (w.alloc (.cells #[.int .i64 x0, .int .i64 y0, .int .i64 x1, .int .i64 y1, .int .i64 s, .slice A zs.length c, .slice B ps.length k] 27)).cell? ⟨w.heap.size, 3, none⟩ = some (.int .i64 y1) := by first | (simp; done) | go_simp
  have D4 : (w.alloc (.cells #[.int .i64 x0, .int .i64 y0, .int .i64 x1, .int .i64 y1, .int .i64 s, .slice A zs.length c, .slice B ps.length k] 27)).cell? ⟨w.heap.size, 4, none⟩ = some (.int .i64 s) := by first | (simp; done) | go_simp
  have D5 : (w.alloc (.cells #[.int .i64 x0, .int .i64 y0, .int .i64 x1, .int .i64 y1, .int .i64 s, .slice A zs.length c, .slice B ps.length k] 27)).cell? ⟨w.heap.size, 5, none⟩ = some (.slice A zs.length c) := by first | (simp; done) | go_simp
  have D6 : (w.alloc (.cells #[.int .i64 x0, .int .i64 y0, .int .i64 x1, .int .i64 y1, .int .i64 s, .slice A zs.length c, .slice B ps.length k] 27)).cell? ⟨w.heap.size, 6, none⟩ = some (.slice B ps.length k) := by first | (simp; done) | go_simp
  have HR := Lib.hid (hr.out.below hB)
  have HP := Lib.hid (pr.out.below hB)
  go_enter Try.func5, Try.ntmps5
  go_wp2_with fail
  generalize w.alloc (.cells #[.int .i64 x0, .int .i64 y0, .int .i64 x1, .int .i64 y1, .int .i64 s, .slice A zs.length c, .slice B ps.length k] 27) = W0 at *
  go_wp2_with fail
  refine (fitsK_any x0 y0 x1 y1 s A c zs B k ps false (by simp [hF.out]) _).mono ?_
  rintro e w1 ⟨rfl, hb1⟩
  replace D0 := cell_kept D0 hb1
  replace D1 := cell_kept D1 hb1
  replace D2 := cell_kept D2 hb1
  replace D3 := cell_kept D3 hb1
  replace D4 := cell_kept D4 hb1
  replace D5 := cell_kept D5 hb1
  replace D6 := cell_kept D6 hb1
  replace HR := Lib.hid (HR.out.below hb1)
  replace HP := Lib.hid (HP.out.below hb1)
  replace hB := hB.trans (hb1.mono hB.size)
  clear hb1
  go_wp2
  go_ret
  exact ⟨by simp, hB⟩

set_option maxRecDepth 100000 in
set_option maxHeartbeats 2000000 in
theorem idx_out (x0 y0 x1 y1 s : Int) (A : Option Addr) (c : Nat) (zs : List Int) (B : Option Addr) (k : Nat) (ps : List (Int × Int × Int × Int)) (x y : Int) (w : World) (hr : Hid (Reads w A zs)) (hl : Small zs) (hn : Hid (A = none → c = 0)) (pr : Hid (PReads w B ps)) (pl : (ps.length : Int) ≤ 2097152) (hF : Hid (Fits x0 y0 x1 y1 s 1 zs.length)) (hI : Hid (¬ Insd x0 y0 x1 y1 x y)) :
    Calls Try.prog 5 #[.agg #[.int .i64 x0, .int .i64 y0, .int .i64 x1, .int .i64 y1, .int .i64 s, .slice A zs.length c, .slice B ps.length k], .int .i64 x, .int .i64 y] w fun e w' => e = .returned (.bool true) ∧ Below w.heap.size w w' := by
  have hB : Below w.heap.size w (w.alloc (.cells #[.int .i64 x0, .int .i64 y0, .int .i64 x1, .int .i64 y1, .int .i64 s, .slice A zs.length c, .slice B ps.length k] 27)) := (Below.refl _ _).alloc (Nat.le_refl _) _
  have D0 : (w.alloc (.cells #[.int .i64 x0, .int .i64 y0, .int .i64 x1, .int .i64 y1, .int .i64 s, .slice A zs.length c, .slice B ps.length k] 27)).cell? ⟨w.heap.size, 0, none⟩ = some (.int .i64 x0) := by first | (simp; done) | go_simp
  have D1 : (w.alloc (.cells #[.int .i64 x0, .int .i64 y0, .int .i64 x1, .int .i64 y1, .int .i64 s, .slice A zs.length c, .slice B ps.length k] 27)).cell? ⟨w.heap.size, 1, none⟩ = some (.int .i64 y0) := by first | (simp; done) | go_simp
  have D2 : (w.alloc (.cells #[.int .i64 x0, .int .i64 y0, .int .i64 x1, .int .i64 y1, .int .i64 s, .slice A zs.length c, .slice B ps.length k] 27)).cell? ⟨w.heap.size, 2, none⟩ = some (.int .i64 x1) := by first | (simp; done) | go_simp
  have D3 : (w.alloc (.cells #[.int .i64 x0, .int .i64 y0, .int .i64 x1, .int .i64 y1, .int .i64 s, .slice A zs.length c, .slice B ps.length k] 27)).cell? ⟨w.heap.size, 3, none⟩ = some (.int .i64 y1) := by first | (simp; done) | go_simp
  have D4 : (w.alloc (.cells #[.int .i64 x0, .int .i64 y0, .int .i64 x1, .int .i64 y1, .int .i64 s, .slice A zs.length c, .slice B ps.length k] 27)).cell? ⟨w.heap.size, 4, none⟩ = some (.int .i64 s) := by first | (simp; done) | go_simp
  have D5 : (w.alloc (.cells #[.int .i64 x0, .int .i64 y0, .int .i64 x1, .int .i64 y1, .int .i64 s, .slice A zs.length c, .slice B ps.length k] 27)).cell? ⟨w.heap.size, 5, none⟩ = some (.slice A zs.length c) := by first | (simp; done) | go_simp
  have D6 : (w.alloc (.cells #[.int .i64 x0, .int .i64 y0, .int .i64 x1, .int .i64 y1, .int .i64 s, .slice A zs.length c, .slice B ps.length k] 27)).cell? ⟨w.heap.size, 6, none⟩ = some (.slice B ps.length k) := by first | (simp; done) | go_simp
  have HR := Lib.hid (hr.out.below hB)
  have HP := Lib.hid (pr.out.below hB)
  go_enter Try.func5, Try.ntmps5
  go_wp2_with fail
  generalize w.alloc (.cells #[.int .i64 x0, .int .i64 y0, .int .i64 x1, .int .i64 y1, .int .i64 s, .slice A zs.length c, .slice B ps.length k] 27) = W0 at *
  go_wp2_with fail
  refine (fitsK_any x0 y0 x1 y1 s A c zs B k ps true (by simp [hF.out]) _).mono ?_
  rintro e w1 ⟨rfl, hb1⟩
  replace D0 := cell_kept D0 hb1
  replace D1 := cell_kept D1 hb1
  replace D2 := cell_kept D2 hb1
  replace D3 := cell_kept D3 hb1
  replace D4 := cell_kept D4 hb1
  replace D5 := cell_kept D5 hb1
  replace D6 := cell_kept D6 hb1
  replace HR := Lib.hid (HR.out.below hb1)
  replace HP := Lib.hid (HP.out.below hb1)
  replace hB := hB.trans (hb1.mono hB.size)
  clear hb1
  go_wp2_with fail
  refine (inside_any x0 y0 x1 y1 x y false (by simp [hI.out]) _).mono ?_
  rintro e w2 ⟨rfl, hb2⟩
  replace D0 := cell_kept D0 hb2
  replace D1 := cell_kept D1 hb2
  replace D2 := cell_kept D2 hb2
  replace D3 := cell_kept D3 hb2
  replace D4 := cell_kept D4 hb2
  replace D5 := cell_kept D5 hb2
  replace D6 := cell_kept D6 hb2
  replace HR := Lib.hid (HR.out.below hb2)
  replace HP := Lib.hid (HP.out.below hb2)
  replace hB := hB.trans (hb2.mono hB.size)
  clear hb2
  go_wp2
  go_ret
  exact ⟨by simp, hB⟩

set_option maxRecDepth 100000 in
set_option maxHeartbeats 2000000 in
theorem idx_in (x0 y0 x1 y1 s : Int) (A : Option Addr) (c : Nat) (zs : List Int) (B : Option Addr) (k : Nat) (ps : List (Int × Int × Int × Int)) (x y : Int) (w : World) (hr : Hid (Reads w A zs)) (hl : Small zs) (hn : Hid (A = none → c = 0)) (pr : Hid (PReads w B ps)) (pl : (ps.length : Int) ≤ 2097152) (hF : Hid (Fits x0 y0 x1 y1 s 1 zs.length)) (hI : Hid (Insd x0 y0 x1 y1 x y)) :
    Calls Try.prog 5 #[.agg #[.int .i64 x0, .int .i64 y0, .int .i64 x1, .int .i64 y1, .int .i64 s, .slice A zs.length c, .slice B ps.length k], .int .i64 x, .int .i64 y] w fun e w' => e = .returned (.bool true) ∧ Below w.heap.size w w' := by
  obtain ⟨b1, b2, b3, b4⟩ : -4398046511104 ≤ y - y0 ∧ y - y0 ≤ 4398046511104 ∧ -4398046511104 ≤ x - x0 ∧ x - x0 ≤ 4398046511104 := near_point hF.out hI.out
  obtain ⟨p1, p2⟩ : -2305843009213693952 ≤ (y - y0) * s ∧ (y - y0) * s ≤ 2305843009213693952 := (by have := hF.out.prods hI.out; omega)
  obtain ⟨m, hK, hk'⟩ := hF.out.place (z := 1) rfl hI.out
  rw [Int.mul_one] at hK
  have HK := Lib.hid hK
  have hk : m < zs.length := by omega
  obtain ⟨v, HV⟩ : ∃ v, Hid (zs.getD m 0 = v) := ⟨_, rfl⟩
  obtain ⟨b, o, rfl⟩ := hr.out.addr (by omega)
  have hB : Below w.heap.size w (w.alloc (.cells #[.int .i64 x0, .int .i64 y0, .int .i64 x1, .int .i64 y1, .int .i64 s, .slice (some ⟨b, o, none⟩) zs.length c, .slice B ps.length k] 27)) := (Below.refl _ _).alloc (Nat.le_refl _) _
  have D0 : (w.alloc (.cells #[.int .i64 x0, .int .i64 y0, .int .i64 x1, .int .i64 y1, .int .i64 s, .slice (some ⟨b, o, none⟩) zs.length c, .slice B ps.length k] 27)).cell? ⟨w.heap.size, 0, none⟩ = some (.int .i64 x0) := by first | (simp; done) | go_simp
  have D1 : (w.alloc (.cells #[.int .i64 x0, .int .i64 y0, .int .i64 x1, .int .i64 y1, .int .i64 s, .slice (some ⟨b, o, none⟩) zs.length c, .slice B ps.length k] 27)).cell? ⟨w.heap.size, 1, none⟩ = some (.int .i64 y0) := by first | (simp; done) | go_simp
  have D2 : (w.alloc (.cells #[.int .i64 x0, .int .i64 y0, .int .i64 x1, .int .i64 y1, .int .i64 s, .slice (some ⟨b, o, none⟩) zs.length c, .slice B ps.length k] 27)).cell? ⟨w.heap.size, 2, none⟩ = some (.int .i64 x1) := by first | (simp; done) | go_simp
  have D3 : (w.alloc (.cells #[.int .i64 x0, .int .i64 y0, .int .i64 x1, .int .i64 y1, .int .i64 s, .slice (some ⟨b, o, none⟩) zs.length c, .slice B ps.length k] 27)).cell? ⟨w.heap.size, 3, none⟩ = some (.int .i64 y1) := by first | (simp; done) | go_simp
  have D4 : (w.alloc (.cells #[.int .i64 x0, .int .i64 y0, .int .i64 x1, .int .i64 y1, .int .i64 s, .slice (some ⟨b, o, none⟩) zs.length c, .slice B ps.length k] 27)).cell? ⟨w.heap.size, 4, none⟩ = some (.int .i64 s) := by first | (simp; done) | go_simp
  have D5 : (w.alloc (.cells #[.int .i64 x0, .int .i64 y0, .int .i64 x1, .int .i64 y1, .int .i64 s, .slice (some ⟨b, o, none⟩) zs.length c, .slice B ps.length k] 27)).cell? ⟨w.heap.size, 5, none⟩ = some (.slice (some ⟨b, o, none⟩) zs.length c) := by first | (simp; done) | go_simp
  have D6 : (w.alloc (.cells #[.int .i64 x0, .int .i64 y0, .int .i64 x1, .int .i64 y1, .int .i64 s, .slice (some ⟨b, o, none⟩) zs.length c, .slice B ps.length k] 27)).cell? ⟨w.heap.size, 6, none⟩ = some (.slice B ps.length k) := by first | (simp; done) | go_simp
  have HR := Lib.hid (hr.out.below hB)
  have HP := Lib.hid (pr.out.below hB)
  go_enter Try.func5, Try.ntmps5
  go_wp2_with fail
  generalize w.alloc (.cells #[.int .i64 x0, .int .i64 y0, .int .i64 x1, .int .i64 y1, .int .i64 s, .slice (some ⟨b, o, none⟩) zs.length c, .slice B ps.length k] 27) = W0 at *
  go_wp2_with fail
  refine (fitsK_any x0 y0 x1 y1 s _ c zs B k ps true (by simp [hF.out]) _).mono ?_
  rintro e w1 ⟨rfl, hb1⟩
  replace D0 := cell_kept D0 hb1
  replace D1 := cell_kept D1 hb1
  replace D2 := cell_kept D2 hb1
  replace D3 := cell_kept D3 hb1
  replace D4 := cell_kept D4 hb1
  replace D5 := cell_kept D5 hb1
  replace D6 := cell_kept D6 hb1
  replace HR := Lib.hid (HR.out.below hb1)
  replace HP := Lib.hid (HP.out.below hb1)
  replace hB := hB.trans (hb1.mono hB.size)
  clear hb1
  go_wp2_with fail
  refine (inside_any x0 y0 x1 y1 x y true (by simp [hI.out]) _).mono ?_
  rintro e w2 ⟨rfl, hb2⟩
  replace D0 := cell_kept D0 hb2
  replace D1 := cell_kept D1 hb2
  replace D2 := cell_kept D2 hb2
  replace D3 := cell_kept D3 hb2
  replace D4 := cell_kept D4 hb2
  replace D5 := cell_kept D5 hb2
  replace D6 := cell_kept D6 hb2
  replace HR := Lib.hid (HR.out.below hb2)
  replace HP := Lib.hid (HP.out.below hb2)
  replace hB := hB.trans (hb2.mono hB.size)
  clear hb2
  have q := HR.out.cell (j := m) hk
  rw [HV.out] at q
  have i0 : (0 : Int) ≤ (m : Int) := by omega
  have i1 : (m : Int) < (zs.length : Int) := by omega
  go_wp2_with fail
  have P0 : Below w2.heap.size w2 w2.drew := (Below.refl _ _).drew
  have toS : ∀ W' : World, Below w2.heap.size w2 W' → (W'.cell? ⟨w.heap.size, 0, none⟩ = some (.int .i64 x0) ∧ W'.cell? ⟨w.heap.size, 1, none⟩ = some (.int .i64 y0) ∧ W'.cell? ⟨w.heap.size, 2, none⟩ = some (.int .i64 x1) ∧ W'.cell? ⟨w.heap.size, 3, none⟩ = some (.int .i64 y1) ∧ W'.cell? ⟨w.heap.size, 4, none⟩ = some (.int .i64 s) ∧ W'.cell? ⟨w.heap.size, 5, none⟩ = some (.slice (some ⟨b, o, none⟩) zs.length c) ∧ W'.cell? ⟨w.heap.size, 6, none⟩ = some (.slice B ps.length k) ∧ W'.cell? ⟨b, o + m, none⟩ = some (.int .u8 v)) := fun W' h => ⟨cell_kept D0 h, cell_kept D1 h, cell_kept D2 h, cell_kept D3 h, cell_kept D4 h, cell_kept D5 h, cell_kept D6 h, cell_kept q h⟩
  have TOS := Lib.hid toS
  clear toS
  have hzN := hB.size
  refine wp_region_held_drew (S := fun w' => w'.cell? ⟨w.heap.size, 0, none⟩ = some (.int .i64 x0) ∧ w'.cell? ⟨w.heap.size, 1, none⟩ = some (.int .i64 y0) ∧ w'.cell? ⟨w.heap.size, 2, none⟩ = some (.int .i64 x1) ∧ w'.cell? ⟨w.heap.size, 3, none⟩ = some (.int .i64 y1) ∧ w'.cell? ⟨w.heap.size, 4, none⟩ = some (.int .i64 s) ∧ w'.cell? ⟨w.heap.size, 5, none⟩ = some (.slice (some ⟨b, o, none⟩) zs.length c) ∧ w'.cell? ⟨w.heap.size, 6, none⟩ = some (.slice B ps.length k) ∧ w'.cell? ⟨b, o + m, none⟩ = some (.int .u8 v)) (by kernel_rfl) ?_ (fun hHeld => ?_)
  · (first | (refine TOS.out _ ?_; first | with_reducible exact P2 | with_reducible exact P1 | with_reducible exact P0))
  refine wpAnyH_take (i := 0) (oi := _) (v := ?vr3_0) rfl (by kernel_rfl) (by kernel_rfl) (by kernel_rfl) (fun _ _ _ h => h) (Or.inl ⟨by rfl, ?hyr3_0⟩) (by assumption) ?restr3_0
  case hyr3_0 => (intro w hSw; (try dsimp only at hSw); go_simp <;> with_reducible rfl)
  try simp only [Act.put, List.getElem_toArray, List.getElem_cons_succ, List.getElem_cons_zero, List.setIfInBounds_toArray, List.set_cons_zero, List.set_cons_succ]
  refine wpAnyH_take (i := 1) (oi := _) (v := ?vr3_1) rfl (by kernel_rfl) (by kernel_rfl) (by kernel_rfl) (fun _ _ _ h => h) (Or.inl ⟨by rfl, ?hyr3_1⟩) (by assumption) ?restr3_1
  case hyr3_1 => (intro w hSw; (try dsimp only at hSw); go_simp <;> with_reducible rfl)
  try simp only [Act.put, List.getElem_toArray, List.getElem_cons_succ, List.getElem_cons_zero, List.setIfInBounds_toArray, List.set_cons_zero, List.set_cons_succ]
  refine wpAnyH_take (i := 2) (oi := _) (v := ?vr3_2) rfl (by kernel_rfl) (by kernel_rfl) (by kernel_rfl) (fun _ _ _ h => h) (Or.inl ⟨by rfl, ?hyr3_2⟩) (by assumption) ?restr3_2
  case hyr3_2 => (intro w hSw; (try dsimp only at hSw); go_simp <;> with_reducible rfl)
  try simp only [Act.put, List.getElem_toArray, List.getElem_cons_succ, List.getElem_cons_zero, List.setIfInBounds_toArray, List.set_cons_zero, List.set_cons_succ]
  refine wpAnyH_take (i := 4) (oi := _) (v := ?vr3_4) rfl (by kernel_rfl) (by kernel_rfl) (by kernel_rfl) (fun _ _ _ h => h) (Or.inl ⟨by rfl, ?hyr3_4⟩) (by assumption) ?restr3_4
  case hyr3_4 => (intro w hSw; (try dsimp only at hSw); go_simp <;> with_reducible rfl)
  try simp only [Act.put, List.getElem_toArray, List.getElem_cons_succ, List.getElem_cons_zero, List.setIfInBounds_toArray, List.set_cons_zero, List.set_cons_succ]
  refine wpAnyH_take (i := 5) (oi := _) (v := ?vr3_5) rfl (by kernel_rfl) (by kernel_rfl) (by kernel_rfl) (fun _ _ _ h => h) (Or.inl ⟨by rfl, ?hyr3_5⟩) (by assumption) ?restr3_5
  case hyr3_5 => (intro w hSw; (try dsimp only at hSw); go_simp <;> with_reducible rfl)
  try simp only [Act.put, List.getElem_toArray, List.getElem_cons_succ, List.getElem_cons_zero, List.setIfInBounds_toArray, List.set_cons_zero, List.set_cons_succ]
  refine wpAnyH_take (i := 6) (oi := _) (v := ?vr3_6) rfl (by kernel_rfl) (by kernel_rfl) (by kernel_rfl) (fun _ _ _ h => h) (Or.inl ⟨by rfl, ?hyr3_6⟩) (by assumption) ?restr3_6
  case hyr3_6 => (intro w hSw; (try dsimp only at hSw); go_simp <;> with_reducible rfl)
  try simp only [Act.put, List.getElem_toArray, List.getElem_cons_succ, List.getElem_cons_zero, List.setIfInBounds_toArray, List.set_cons_zero, List.set_cons_succ]
  refine wpAnyH_take (i := 7) (oi := _) (v := ?vr3_7) rfl (by kernel_rfl) (by kernel_rfl) (by kernel_rfl) (fun _ _ _ h => h) (Or.inl ⟨by rfl, ?hyr3_7⟩) (by assumption) ?restr3_7
  case hyr3_7 => (intro w hSw; (try dsimp only at hSw); go_simp <;> with_reducible rfl)
  try simp only [Act.put, List.getElem_toArray, List.getElem_cons_succ, List.getElem_cons_zero, List.setIfInBounds_toArray, List.set_cons_zero, List.set_cons_succ]
  refine wpAnyH_take (i := 8) (oi := _) (v := ?vr3_8) rfl (by kernel_rfl) (by kernel_rfl) (by kernel_rfl) (fun _ _ _ h => h) (Or.inl ⟨by rfl, ?hyr3_8⟩) (by assumption) ?restr3_8
  case hyr3_8 => (intro w hSw; (try dsimp only at hSw); go_simp <;> with_reducible rfl)
  try simp only [Act.put, List.getElem_toArray, List.getElem_cons_succ, List.getElem_cons_zero, List.setIfInBounds_toArray, List.set_cons_zero, List.set_cons_succ]
  refine wpAnyH_ready (rs := [3]) (by kernel_rfl) (by simp) ?_
  refine AllReadyH.cons (o := _) rfl (fun K hK => ?_) AllReadyH.nil
  go_simp
  (go_at_call 22; refine (implIndex_in x0 y0 x1 y1 s _ c zs B k ps x y _ (show Hid _ from HR.out.below P0) hl hn (show Hid _ from HP.out.below P0) pl m v hI b1 b2 b3 b4 p1 p2 HK hk HV).mono ?_; rintro e v1' ⟨rfl, hq1⟩; have P1 : Below w2.heap.size w2 v1' := P0.trans (hq1.mono P0.size))
  refine hK.out _ _ ?_ (fun hHeld => ?_)
  · (first | (refine TOS.out _ ?_; first | with_reducible exact P2 | with_reducible exact P1 | with_reducible exact P0))
  clear hK K
  try simp only [Act.put, List.getElem_toArray, List.getElem_cons_succ, List.getElem_cons_zero, List.setIfInBounds_toArray, List.set_cons_zero, List.set_cons_succ]
  refine wpAnyH_ready (rs := [9]) (by kernel_rfl) (by simp) ?_
  refine AllReadyH.cons (o := _) rfl (fun K hK => ?_) AllReadyH.nil
  go_simp
  (go_at_call 18; refine (atK_any x0 y0 x1 y1 s _ c zs B k ps x y _ b1 b2 b3 b4 p1 p2).mono ?_; rintro e v2' ⟨rfl, hq2⟩; rw [HK.out]; have P2 : Below w2.heap.size w2 v2' := P1.trans (hq2.mono P1.size))
  refine hK.out _ _ ?_ (fun hHeld => ?_)
  · (first | (refine TOS.out _ ?_; first | with_reducible exact P2 | with_reducible exact P1 | with_reducible exact P0))
  clear hK K
  try simp only [Act.put, List.getElem_toArray, List.getElem_cons_succ, List.getElem_cons_zero, List.setIfInBounds_toArray, List.set_cons_zero, List.set_cons_succ]
  refine wpAnyH_take (i := 10) (oi := _) (v := ?vr3_10) rfl (by kernel_rfl) (by kernel_rfl) (by kernel_rfl) (fun _ _ _ h => h) (Or.inl ⟨by rfl, ?hyr3_10⟩) (by assumption) ?restr3_10
  case hyr3_10 => (intro w hSw; (try dsimp only at hSw); go_simp <;> with_reducible rfl)
  try simp only [Act.put, List.getElem_toArray, List.getElem_cons_succ, List.getElem_cons_zero, List.setIfInBounds_toArray, List.set_cons_zero, List.set_cons_succ]
  refine wpAnyH_take (i := 11) (oi := _) (v := ?vr3_11) rfl (by kernel_rfl) (by kernel_rfl) (by kernel_rfl) (fun _ _ _ h => h) (Or.inl ⟨by rfl, ?hyr3_11⟩) (by assumption) ?restr3_11
  case hyr3_11 => (intro w hSw; (try dsimp only at hSw); go_simp <;> with_reducible rfl)
  try simp only [Act.put, List.getElem_toArray, List.getElem_cons_succ, List.getElem_cons_zero, List.setIfInBounds_toArray, List.set_cons_zero, List.set_cons_succ]
  refine wpAnyH_take (i := 12) (oi := _) (v := ?vr3_12) rfl (by kernel_rfl) (by kernel_rfl) (by kernel_rfl) (fun _ _ _ h => h) (Or.inl ⟨by rfl, ?hyr3_12⟩) (by assumption) ?restr3_12
  case hyr3_12 => (intro w hSw; (try dsimp only at hSw); go_simp <;> with_reducible rfl)
  try simp only [Act.put, List.getElem_toArray, List.getElem_cons_succ, List.getElem_cons_zero, List.setIfInBounds_toArray, List.set_cons_zero, List.set_cons_succ]
  refine wpAnyH_take (i := 13) (oi := _) (v := ?vr3_13) rfl (by kernel_rfl) (by kernel_rfl) (by kernel_rfl) (fun _ _ _ h => h) (Or.inl ⟨by rfl, ?hyr3_13⟩) (by assumption) ?restr3_13
  case hyr3_13 => (intro w hSw; (try dsimp only at hSw); go_simp <;> with_reducible rfl)
  try simp only [Act.put, List.getElem_toArray, List.getElem_cons_succ, List.getElem_cons_zero, List.setIfInBounds_toArray, List.set_cons_zero, List.set_cons_succ]
  refine wpAnyH_done (by kernel_rfl) ?_ _
  go_wp2
  go_ret
  exact ⟨by simp, hB.trans (P2.mono hzN)⟩

theorem walk_index (x0 y0 x1 y1 s : Int) (A : Option Addr) (c : Nat) (zs : List Int) (B : Option Addr) (k : Nat) (ps : List (Int × Int × Int × Int)) (x y : Int) (w : World) (hr : Hid (Reads w A zs)) (hl : Small zs) (hn : Hid (A = none → c = 0)) (pr : Hid (PReads w B ps)) (pl : (ps.length : Int) ≤ 2097152) :
    Calls Try.prog 5 #[.agg #[.int .i64 x0, .int .i64 y0, .int .i64 x1, .int .i64 y1, .int .i64 s, .slice A zs.length c, .slice B ps.length k], .int .i64 x, .int .i64 y] w fun e w' => e = .returned (.bool true) ∧ Below w.heap.size w w' := by
  by_cases hF : Fits x0 y0 x1 y1 s 1 zs.length
  · by_cases hI : Insd x0 y0 x1 y1 x y
    · exact idx_in x0 y0 x1 y1 s A c zs B k ps x y w hr hl hn pr pl hF hI
    · exact idx_out x0 y0 x1 y1 s A c zs B k ps x y w hr hl hn pr pl hF hI
  · exact idx_unfit x0 y0 x1 y1 s A c zs B k ps x y w hr hl hn pr pl hF

end Go.Proofs.Ytkhgobeeaiagfaa
