/- Plates: bytes.Equal, slices.Equal, samePlate. -/
import Derived.Test.YtkhgobeeaiagfaaPlateOf
import Derived.Laws.BytesArg
import Derived.BigRegion
namespace Go.Proofs.Ytkhgobeeaiagfaa
open Go.RowKit
set_option linter.unusedVariables false
set_option linter.unusedSimpArgs false

/-- string(b) of a slice of bytes. -/
theorem Reads.conv {w : World} {A : Option Addr} {zs : List Int} (h : Reads w A zs) (c : Nat) : (convert 24 9 (.slice A zs.length c)).run Try.prog w = .ok (.string (strOfNums zs)) w := by
  rcases Nat.eq_zero_or_pos zs.length with h0 | hp
  · obtain rfl : zs = [] := List.eq_nil_of_length_eq_zero h0
    show (convert 24 9 (.slice A 0 c)).run Try.prog w = .ok (.string ByteArray.empty) w
    rw [run_convert_bytes_string w _ _ _ _ 0 c Try.underlying24 Try.underlying5 Try.underlying9]
    cases A <;> simp [Conv.bytesToString, loadCells]
    all_goals rfl
  · obtain ⟨b, o, rfl⟩ := h.addr hp
    exact run_convert_bytes_arg (P := Try.prog) w _ _ Try.underlying24 Try.underlying5 b o zs.length c zs rfl (fun i hi => h.cell hi) _ Try.underlying9

theorem equal_same (A B : Option Addr) (c d : Nat) (zs : List Int) (w : World) (ha : Reads w A zs) (hb : Reads w B zs) :
    Calls Try.prog 47 #[.slice A zs.length c, .slice B zs.length d] w fun e w' => e = .returned (.bool true) ∧ w = w' := by
  have k1 := ha.conv c
  have k2 := hb.conv d
  clear ha hb
  generalize strOfNums zs = t at *
  go_enter Try.func47, Try.ntmps47
  go_wp2
  go_ret
  exact ⟨by simp, rfl⟩


set_option maxRecDepth 100000 in
set_option maxHeartbeats 2000000 in
theorem colors_some (b1 o1 b2 o2 k1 k2 : Nat) (ps : List (Int × Int × Int × Int)) (w : World) (h1 : Hid (PReads w (some ⟨b1, o1, none⟩) ps)) (h2 : Hid (PReads w (some ⟨b2, o2, none⟩) ps)) (pl : (ps.length : Int) ≤ 2097152) :
    Calls Try.prog 31 #[.slice (some ⟨b1, o1, none⟩) ps.length k1, .slice (some ⟨b2, o2, none⟩) ps.length k2] w fun e w' => e = .returned (.bool true) ∧ ∃ n, w' = w.drewN n := by
  go_enter Try.func31, Try.ntmps31
  go_wp2
  go_loopw [13] (fun i wr => ∃ (j n : Nat), j ≤ ps.length ∧ i = .int .i64 j ∧ wr = w.drewN n) (fun i _ => ps.length - (intOf i).toNat)
  case atStart => exact ⟨0, 0, Nat.zero_le _, rfl, rfl⟩
  case round =>
    obtain ⟨j, n, hj, rfl, rfl⟩ := hrel
    by_cases hlt : j < ps.length
    · have i0' : (0 : Int) ≤ (j : Int) := by omega
      have i1' : (j : Int) < (ps.length : Int) := by omega
      have c0 := h1.out.cell hlt 0 _ rfl
      have c1 := h1.out.cell hlt 1 _ rfl
      have c2 := h1.out.cell hlt 2 _ rfl
      have c3 := h1.out.cell hlt 3 _ rfl
      have d0 := h2.out.cell hlt 0 _ rfl
      have d1 := h2.out.cell hlt 1 _ rfl
      have d2 := h2.out.cell hlt 2 _ rfl
      have d3 := h2.out.cell hlt 3 _ rfl
      obtain ⟨⟨r, g, bl, al⟩, hp⟩ : ∃ p, ps.getD j noCol = p := ⟨_, rfl⟩
      rw [hp] at c0 c1 c2 c3 d0 d1 d2 d3
      rw [Nat.add_zero] at c0 d0
      clear hp
      dsimp only at c0 c1 c2 c3 d0 d1 d2 d3
      go_wp2
      go_quiet (fail)
      go_wp2
      go_roundw
      case rel => exact ⟨j + 1, _, by omega, by go_num, by first | rfl | (simp; rfl)⟩
      case measure => simp [intOf]; omega
    · have hkk : ¬ (j : Int) < (ps.length : Int) := by omega
      go_wp2
      go_ret
      exact ⟨rfl, _, rfl⟩
theorem colors_none (B1 B2 : Option Addr) (k1 k2 : Nat) (w : World) :
    Calls Try.prog 31 #[.slice B1 0 k1, .slice B2 0 k2] w fun e w' => e = .returned (.bool true) ∧ ∃ n, w' = w.drewN n := by
  go_enter Try.func31, Try.ntmps31
  go_wp2
  go_loop [13] (fun i => i = .int .i64 0) (fun _ => 0)
  case atStart => rfl
  case round =>
    obtain rfl := hrel
    go_wp2
    go_ret
    exact ⟨rfl, 0, rfl⟩
theorem colors_any (B1 B2 : Option Addr) (k1 k2 : Nat) (ps : List (Int × Int × Int × Int)) (w : World) (h1 : PReads w B1 ps) (h2 : PReads w B2 ps) (pl : (ps.length : Int) ≤ 2097152) :
    Calls Try.prog 31 #[.slice B1 ps.length k1, .slice B2 ps.length k2] w fun e w' => e = .returned (.bool true) ∧ Below w.heap.size w w' := by
  have h : Calls Try.prog 31 #[.slice B1 ps.length k1, .slice B2 ps.length k2] w fun e w' => e = .returned (.bool true) ∧ ∃ n, w' = w.drewN n := by
    rcases Nat.eq_zero_or_pos ps.length with h0 | hp
    · obtain rfl : ps = [] := List.eq_nil_of_length_eq_zero h0
      exact colors_none B1 B2 k1 k2 w
    · obtain ⟨b1, o1, rfl⟩ := h1.addr hp
      obtain ⟨b2, o2, rfl⟩ := h2.addr hp
      exact colors_some b1 o1 b2 o2 k1 k2 ps w h1 h2 pl
  exact h.mono fun e w' ⟨he, n, hw⟩ => ⟨he, by rw [hw]; exact below_drewN (Below.refl _ _) n⟩

set_option maxRecDepth 100000 in
set_option maxHeartbeats 2000000 in
theorem same_any (x0 y0 x1 y1 s : Int) (A : Option Addr) (c : Nat) (zs : List Int) (B : Option Addr) (k : Nat) (ps : List (Int × Int × Int × Int)) (A2 : Option Addr) (c2 : Nat) (B2 : Option Addr) (k2 : Nat) (w : World) (hr : Hid (Reads w A zs)) (hr2 : Hid (Reads w A2 zs)) (pr : Hid (PReads w B ps)) (pr2 : Hid (PReads w B2 ps)) (pl : (ps.length : Int) ≤ 2097152) :
    Calls Try.prog 26 #[.agg #[.int .i64 x0, .int .i64 y0, .int .i64 x1, .int .i64 y1, .int .i64 s, .slice A zs.length c, .slice B ps.length k], .agg #[.int .i64 x0, .int .i64 y0, .int .i64 x1, .int .i64 y1, .int .i64 s, .slice A2 zs.length c2, .slice B2 ps.length k2]] w fun e w' => e = .returned (.bool true) ∧ Below w.heap.size w w' := by
  have hB : Below w.heap.size w ((w.alloc (.cells #[.int .i64 x0, .int .i64 y0, .int .i64 x1, .int .i64 y1, .int .i64 s, .slice A zs.length c, .slice B ps.length k] 27)).alloc (.cells #[.int .i64 x0, .int .i64 y0, .int .i64 x1, .int .i64 y1, .int .i64 s, .slice A2 zs.length c2, .slice B2 ps.length k2] 27)) := ((Below.refl _ _).alloc (Nat.le_refl _) _).alloc (by simp) _
  have D0 : ((w.alloc (.cells #[.int .i64 x0, .int .i64 y0, .int .i64 x1, .int .i64 y1, .int .i64 s, .slice A zs.length c, .slice B ps.length k] 27)).alloc (.cells #[.int .i64 x0, .int .i64 y0, .int .i64 x1, .int .i64 y1, .int .i64 s, .slice A2 zs.length c2, .slice B2 ps.length k2] 27)).cell? ⟨w.heap.size, 0, none⟩ = some (.int .i64 x0) := by first | (simp; done) | go_simp
  have D1 : ((w.alloc (.cells #[.int .i64 x0, .int .i64 y0, .int .i64 x1, .int .i64 y1, .int .i64 s, .slice A zs.length c, .slice B ps.length k] 27)).alloc (.cells #[.int .i64 x0, .int .i64 y0, .int .i64 x1, .int .i64 y1, .int .i64 s, .slice A2 zs.length c2, .slice B2 ps.length k2] 27)).cell? ⟨w.heap.size, 1, none⟩ = some (.int .i64 y0) := by first | (simp; done) | go_simp
  have D2 : ((w.alloc (.cells #[.int .i64 x0, .int .i64 y0, .int .i64 x1, .int .i64 y1, .int .i64 s, .slice A zs.length c, .slice B ps.length k] 27)).alloc (.cells #[.int .i64 x0, .int .i64 y0, .int .i64 x1, .int .i64 y1, .int .i64 s, .slice A2 zs.length c2, .slice B2 ps.length k2] 27)).cell? ⟨w.heap.size, 2, none⟩ = some (.int .i64 x1) := by first | (simp; done) | go_simp
  have D3 : ((w.alloc (.cells #[.int .i64 x0, .int .i64 y0, .int .i64 x1, .int .i64 y1, .int .i64 s, .slice A zs.length c, .slice B ps.length k] 27)).alloc (.cells #[.int .i64 x0, .int .i64 y0, .int .i64 x1, .int .i64 y1, .int .i64 s, .slice A2 zs.length c2, .slice B2 ps.length k2] 27)).cell? ⟨w.heap.size, 3, none⟩ = some (.int .i64 y1) := by first | (simp; done) | go_simp
  have D4 : ((w.alloc (.cells #[.int .i64 x0, .int .i64 y0, .int .i64 x1, .int .i64 y1, .int .i64 s, .slice A zs.length c, .slice B ps.length k] 27)).alloc (.cells #[.int .i64 x0, .int .i64 y0, .int .i64 x1, .int .i64 y1, .int .i64 s, .slice A2 zs.length c2, .slice B2 ps.length k2] 27)).cell? ⟨w.heap.size, 4, none⟩ = some (.int .i64 s) := by first | (simp; done) | go_simp
  have D5 : ((w.alloc (.cells #[.int .i64 x0, .int .i64 y0, .int .i64 x1, .int .i64 y1, .int .i64 s, .slice A zs.length c, .slice B ps.length k] 27)).alloc (.cells #[.int .i64 x0, .int .i64 y0, .int .i64 x1, .int .i64 y1, .int .i64 s, .slice A2 zs.length c2, .slice B2 ps.length k2] 27)).cell? ⟨w.heap.size, 5, none⟩ = some (.slice A zs.length c) := by first | (simp; done) | go_simp
  have D6 : ((w.alloc (.cells #[.int .i64 x0, .int .i64 y0, .int .i64 x1, .int .i64 y1, .int .i64 s, .slice A zs.length c, .slice B ps.length k] 27)).alloc (.cells #[.int .i64 x0, .int .i64 y0, .int .i64 x1, .int .i64 y1, .int .i64 s, .slice A2 zs.length c2, .slice B2 ps.length k2] 27)).cell? ⟨w.heap.size, 6, none⟩ = some (.slice B ps.length k) := by first | (simp; done) | go_simp
  have E0 : ((w.alloc (.cells #[.int .i64 x0, .int .i64 y0, .int .i64 x1, .int .i64 y1, .int .i64 s, .slice A zs.length c, .slice B ps.length k] 27)).alloc (.cells #[.int .i64 x0, .int .i64 y0, .int .i64 x1, .int .i64 y1, .int .i64 s, .slice A2 zs.length c2, .slice B2 ps.length k2] 27)).cell? ⟨w.heap.size + 1, 0, none⟩ = some (.int .i64 x0) := by first | (simp; done) | go_simp
  have E1 : ((w.alloc (.cells #[.int .i64 x0, .int .i64 y0, .int .i64 x1, .int .i64 y1, .int .i64 s, .slice A zs.length c, .slice B ps.length k] 27)).alloc (.cells #[.int .i64 x0, .int .i64 y0, .int .i64 x1, .int .i64 y1, .int .i64 s, .slice A2 zs.length c2, .slice B2 ps.length k2] 27)).cell? ⟨w.heap.size + 1, 1, none⟩ = some (.int .i64 y0) := by first | (simp; done) | go_simp
  have E2 : ((w.alloc (.cells #[.int .i64 x0, .int .i64 y0, .int .i64 x1, .int .i64 y1, .int .i64 s, .slice A zs.length c, .slice B ps.length k] 27)).alloc (.cells #[.int .i64 x0, .int .i64 y0, .int .i64 x1, .int .i64 y1, .int .i64 s, .slice A2 zs.length c2, .slice B2 ps.length k2] 27)).cell? ⟨w.heap.size + 1, 2, none⟩ = some (.int .i64 x1) := by first | (simp; done) | go_simp
  have E3 : ((w.alloc (.cells #[.int .i64 x0, .int .i64 y0, .int .i64 x1, .int .i64 y1, .int .i64 s, .slice A zs.length c, .slice B ps.length k] 27)).alloc (.cells #[.int .i64 x0, .int .i64 y0, .int .i64 x1, .int .i64 y1, .int .i64 s, .slice A2 zs.length c2, .slice B2 ps.length k2] 27)).cell? ⟨w.heap.size + 1, 3, none⟩ = some (.int .i64 y1) := by first | (simp; done) | go_simp
  have E4 : ((w.alloc (.cells #[.int .i64 x0, .int .i64 y0, .int .i64 x1, .int .i64 y1, .int .i64 s, .slice A zs.length c, .slice B ps.length k] 27)).alloc (.cells #[.int .i64 x0, .int .i64 y0, .int .i64 x1, .int .i64 y1, .int .i64 s, .slice A2 zs.length c2, .slice B2 ps.length k2] 27)).cell? ⟨w.heap.size + 1, 4, none⟩ = some (.int .i64 s) := by first | (simp; done) | go_simp
  have E5 : ((w.alloc (.cells #[.int .i64 x0, .int .i64 y0, .int .i64 x1, .int .i64 y1, .int .i64 s, .slice A zs.length c, .slice B ps.length k] 27)).alloc (.cells #[.int .i64 x0, .int .i64 y0, .int .i64 x1, .int .i64 y1, .int .i64 s, .slice A2 zs.length c2, .slice B2 ps.length k2] 27)).cell? ⟨w.heap.size + 1, 5, none⟩ = some (.slice A2 zs.length c2) := by first | (simp; done) | go_simp
  have E6 : ((w.alloc (.cells #[.int .i64 x0, .int .i64 y0, .int .i64 x1, .int .i64 y1, .int .i64 s, .slice A zs.length c, .slice B ps.length k] 27)).alloc (.cells #[.int .i64 x0, .int .i64 y0, .int .i64 x1, .int .i64 y1, .int .i64 s, .slice A2 zs.length c2, .slice B2 ps.length k2] 27)).cell? ⟨w.heap.size + 1, 6, none⟩ = some (.slice B2 ps.length k2) := by first | (simp; done) | go_simp
  have HR1 := Lib.hid (hr.out.below hB)
  have HR2 := Lib.hid (hr2.out.below hB)
  have HP1 := Lib.hid (pr.out.below hB)
  have HP2 := Lib.hid (pr2.out.below hB)
  go_enter Try.func26, Try.ntmps26
  go_wp2_with fail
  generalize (w.alloc (.cells #[.int .i64 x0, .int .i64 y0, .int .i64 x1, .int .i64 y1, .int .i64 s, .slice A zs.length c, .slice B ps.length k] 27)).alloc (.cells #[.int .i64 x0, .int .i64 y0, .int .i64 x1, .int .i64 y1, .int .i64 s, .slice A2 zs.length c2, .slice B2 ps.length k2] 27) = W0 at *
  generalize w.heap.size + 1 = be at *
  refine (equal_same A A2 c c2 zs _ HR1.out HR2.out).mono ?_
  rintro e w' ⟨rfl, rfl⟩
  go_wp2_with fail
  refine (colors_any B B2 k k2 ps _ HP1.out HP2.out pl).mono ?_
  rintro e w1 ⟨rfl, hb1⟩
  replace D0 := cell_kept D0 hb1
  replace D1 := cell_kept D1 hb1
  replace D2 := cell_kept D2 hb1
  replace D3 := cell_kept D3 hb1
  replace D4 := cell_kept D4 hb1
  replace D5 := cell_kept D5 hb1
  replace D6 := cell_kept D6 hb1
  replace E0 := cell_kept E0 hb1
  replace E1 := cell_kept E1 hb1
  replace E2 := cell_kept E2 hb1
  replace E3 := cell_kept E3 hb1
  replace E4 := cell_kept E4 hb1
  replace E5 := cell_kept E5 hb1
  replace E6 := cell_kept E6 hb1
  replace HP1 := Lib.hid (HP1.out.below hb1)
  replace HP2 := Lib.hid (HP2.out.below hb1)
  replace hB := hB.trans (hb1.mono hB.size)
  clear hb1
  go_wp2
  go_ret
  exact ⟨by simp, hB⟩


end Go.Proofs.Ytkhgobeeaiagfaa
