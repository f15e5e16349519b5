/- ContainsFunc over bytes that are all zero; the walk of the law FnPalettedNewBlank. -/
import Derived.Test.YtkhgobeeaiagfaaNewQ
namespace Go.Proofs.Ytkhgobeeaiagfaa
open Go.RowKit
set_option linter.unusedVariables false
set_option linter.unusedSimpArgs false

theorem clo_any (w : World) : Calls Try.prog 33 #[.int .u8 0] w fun e w' => e = .returned (.bool false) ∧ w = w' := by
  go_enter Try.func33, Try.ntmps33
  go_wp2
  go_ret
  exact ⟨by simp, rfl⟩

theorem index_some (b o n c : Nat) (w : World) (hn : (n : Int) ≤ 524288) (hc : Hid (∀ k, k < n → w.cell? ⟨b, o + k, none⟩ = some (.int .u8 0))) :
    Calls Try.prog 53 #[.slice (some ⟨b, o, none⟩) n c, (.func (.func 33) #[] #[])] w fun e w' => e = .returned (.int .i64 (-1)) ∧ w = w' := by
  go_enter Try.func53, Try.ntmps53
  go_wp2
  go_loop [8] (fun i => ∃ k : Nat, k ≤ n ∧ i = .int .i64 k) (fun i => n - (intOf i).toNat)
  case atStart => exact ⟨0, Nat.zero_le _, rfl⟩
  case round =>
    obtain ⟨k, hk, rfl⟩ := hrel
    by_cases hlt : k < n
    · have hcell := hc.out k hlt
      go_wp2_with (go_at_call 33; refine (clo_any _).mono ?_; rintro e w' ⟨rfl, rfl⟩)
      go_round
      case rel => exact ⟨k + 1, by omega, by go_num⟩
      case measure => simp [intOf]; omega
    · go_wp2
      go_ret
      exact ⟨rfl, rfl⟩

theorem index_none (A : Option Addr) (c : Nat) (w : World) :
    Calls Try.prog 53 #[.slice A 0 c, (.func (.func 33) #[] #[])] w fun e w' => e = .returned (.int .i64 (-1)) ∧ w = w' := by
  go_enter Try.func53, Try.ntmps53
  go_wp2
  go_loop [8] (fun i => i = .int .i64 0) (fun _ => 0)
  case atStart => rfl
  case round =>
    obtain rfl := hrel
    go_wp2
    go_ret
    exact ⟨rfl, rfl⟩

theorem index_zeros (A : Option Addr) (n c : Nat) (w : World) (hn : n ≤ 524288) (hr : Reads w A (zeros n)) :
    Calls Try.prog 53 #[.slice A (zeros n).length c, (.func (.func 33) #[] #[])] w fun e w' => e = .returned (.int .i64 (-1)) ∧ w = w' := by
  rcases Nat.eq_zero_or_pos n with rfl | hp
  · exact index_none A c w
  · obtain ⟨b, o, rfl⟩ := hr.addr (by rw [zeros_length]; exact hp)
    rw [zeros_length]
    refine index_some b o n c w (by omega) (fun k hk => ?_)
    have := hr.cell (j := k) (by rw [zeros_length]; exact hk)
    simpa [zeros, hk] using this

theorem contains_zeros (A : Option Addr) (n c : Nat) (w : World) (hn : n ≤ 524288) (hr : Hid (Reads w A (zeros n))) :
    Calls Try.prog 32 #[.slice A (zeros n).length c, (.func (.func 33) #[] #[])] w fun e w' => e = .returned (.bool false) ∧ w = w' := by
  go_enter Try.func32, Try.ntmps32
  go_wp2_with fail
  refine (index_zeros A n c _ hn hr.out).mono ?_
  rintro e w1 ⟨rfl, rfl⟩
  go_wp2
  go_ret
  exact ⟨by simp, rfl⟩


set_option maxRecDepth 100000 in
set_option maxHeartbeats 2000000 in
theorem blank_unfair (x0 y0 x1 y1 : Int) (B : Option Addr) (k : Nat) (ps : List (Int × Int × Int × Int)) (w : World) (pr : Hid (PReads w B ps)) (pl : (ps.length : Int) ≤ 2097152) (hF : Hid (¬ Fair x0 y0 x1 y1)) :
    Calls Try.prog 11 #[.agg #[.int .i64 x0, .int .i64 y0, .int .i64 x1, .int .i64 y1], .slice B ps.length k] w fun e w' => e = .returned (.bool true) ∧ Below w.heap.size w w' := by
  have hB : Below w.heap.size w (w.alloc (.cells #[.int .i64 x0, .int .i64 y0, .int .i64 x1, .int .i64 y1] 23)) := (Below.refl _ _).alloc (Nat.le_refl _) _
  have R0 : (w.alloc (.cells #[.int .i64 x0, .int .i64 y0, .int .i64 x1, .int .i64 y1] 23)).cell? ⟨w.heap.size, 0, none⟩ = some (.int .i64 x0) := by first | (simp; done) | go_simp
  have R1 : (w.alloc (.cells #[.int .i64 x0, .int .i64 y0, .int .i64 x1, .int .i64 y1] 23)).cell? ⟨w.heap.size, 1, none⟩ = some (.int .i64 y0) := by first | (simp; done) | go_simp
  have R2 : (w.alloc (.cells #[.int .i64 x0, .int .i64 y0, .int .i64 x1, .int .i64 y1] 23)).cell? ⟨w.heap.size, 2, none⟩ = some (.int .i64 x1) := by first | (simp; done) | go_simp
  have R3 : (w.alloc (.cells #[.int .i64 x0, .int .i64 y0, .int .i64 x1, .int .i64 y1] 23)).cell? ⟨w.heap.size, 3, none⟩ = some (.int .i64 y1) := by first | (simp; done) | go_simp
  have HP := Lib.hid (pr.out.below hB)
  go_enter Try.func11, Try.ntmps11
  go_wp2_with fail
  generalize w.alloc (.cells #[.int .i64 x0, .int .i64 y0, .int .i64 x1, .int .i64 y1] 23) = W0 at *
  refine (box_any x0 y0 x1 y1 _).mono ?_
  rintro e w1 ⟨rfl, hb1⟩
  replace R0 := cell_kept R0 hb1
  replace R1 := cell_kept R1 hb1
  replace R2 := cell_kept R2 hb1
  replace R3 := cell_kept R3 hb1
  replace HP := Lib.hid (HP.out.below hb1)
  replace hB := hB.trans (hb1.mono hB.size)
  clear hb1
  go_wp2_with fail
  refine (fair_any x0 y0 x1 y1 false (by simp [hF.out]) _).mono ?_
  rintro e w2 ⟨rfl, hb2⟩
  replace R0 := cell_kept R0 hb2
  replace R1 := cell_kept R1 hb2
  replace R2 := cell_kept R2 hb2
  replace R3 := cell_kept R3 hb2
  replace HP := Lib.hid (HP.out.below hb2)
  replace hB := hB.trans (hb2.mono hB.size)
  clear hb2
  go_wp2
  go_ret
  exact ⟨by simp, hB⟩

set_option maxRecDepth 100000 in
set_option maxHeartbeats 2000000 in
theorem blank_fair (x0 y0 x1 y1 : Int) (B : Option Addr) (k : Nat) (ps : List (Int × Int × Int × Int)) (w : World) (pr : Hid (PReads w B ps)) (pl : (ps.length : Int) ≤ 2097152) (hF : Hid (Fair x0 y0 x1 y1)) :
    Calls Try.prog 11 #[.agg #[.int .i64 x0, .int .i64 y0, .int .i64 x1, .int .i64 y1], .slice B ps.length k] w fun e w' => e = .returned (.bool true) ∧ Below w.heap.size w w' := by
  obtain ⟨_, g1, g2, g3, g4, g5⟩ := id hF.out
  have p0 : 0 ≤ (x1 - x0) * (y1 - y0) := Int.mul_nonneg (by omega) (by omega)
  obtain ⟨n, hn, hn2⟩ : ∃ n : Nat, (x1 - x0) * (y1 - y0) = n ∧ n ≤ 524288 := ⟨((x1 - x0) * (y1 - y0)).toNat, by omega, by omega⟩
  have HN := Lib.hid hn
  have HFN : Hid (Fits x0 y0 x1 y1 (x1 - x0) 1 (zeros n).length) := by unfold Hid; rw [zeros_length]; exact fits_new hF.out hn
  have a0 : 0 ≤ x1 - x0 := by omega
  have b0 : 0 ≤ y1 - y0 := by omega
  clear hn
  have hB : Below w.heap.size w (w.alloc (.cells #[.int .i64 x0, .int .i64 y0, .int .i64 x1, .int .i64 y1] 23)) := (Below.refl _ _).alloc (Nat.le_refl _) _
  have R0 : (w.alloc (.cells #[.int .i64 x0, .int .i64 y0, .int .i64 x1, .int .i64 y1] 23)).cell? ⟨w.heap.size, 0, none⟩ = some (.int .i64 x0) := by first | (simp; done) | go_simp
  have R1 : (w.alloc (.cells #[.int .i64 x0, .int .i64 y0, .int .i64 x1, .int .i64 y1] 23)).cell? ⟨w.heap.size, 1, none⟩ = some (.int .i64 y0) := by first | (simp; done) | go_simp
  have R2 : (w.alloc (.cells #[.int .i64 x0, .int .i64 y0, .int .i64 x1, .int .i64 y1] 23)).cell? ⟨w.heap.size, 2, none⟩ = some (.int .i64 x1) := by first | (simp; done) | go_simp
  have R3 : (w.alloc (.cells #[.int .i64 x0, .int .i64 y0, .int .i64 x1, .int .i64 y1] 23)).cell? ⟨w.heap.size, 3, none⟩ = some (.int .i64 y1) := by first | (simp; done) | go_simp
  have HP := Lib.hid (pr.out.below hB)
  go_enter Try.func11, Try.ntmps11
  go_wp2_with fail
  generalize w.alloc (.cells #[.int .i64 x0, .int .i64 y0, .int .i64 x1, .int .i64 y1] 23) = W0 at *
  refine (box_any x0 y0 x1 y1 _).mono ?_
  rintro e w1 ⟨rfl, hb1⟩
  replace R0 := cell_kept R0 hb1
  replace R1 := cell_kept R1 hb1
  replace R2 := cell_kept R2 hb1
  replace R3 := cell_kept R3 hb1
  replace HP := Lib.hid (HP.out.below hb1)
  replace hB := hB.trans (hb1.mono hB.size)
  clear hb1
  go_wp2_with fail
  refine (fair_any x0 y0 x1 y1 true (by simp [hF.out]) _).mono ?_
  rintro e w2 ⟨rfl, hb2⟩
  replace R0 := cell_kept R0 hb2
  replace R1 := cell_kept R1 hb2
  replace R2 := cell_kept R2 hb2
  replace R3 := cell_kept R3 hb2
  replace HP := Lib.hid (HP.out.below hb2)
  replace hB := hB.trans (hb2.mono hB.size)
  clear hb2
  go_wp2_with fail
  refine (implNew_any x0 y0 x1 y1 n B k ps _ HP pl a0 g3 b0 g4 p0 g5 HN hn2).mono ?_
  rintro e w3 ⟨G1, h1, G2, h2, rfl, ho1, ho2, hb3⟩
  have HG1 := Lib.hid (Reads.of_own ho1)
  have HG2 := Lib.hid (PReads.of_own ho2)
  clear ho1 ho2
  replace R0 := cell_kept R0 hb3
  replace R1 := cell_kept R1 hb3
  replace R2 := cell_kept R2 hb3
  replace R3 := cell_kept R3 hb3
  replace HP := Lib.hid (HP.out.below hb3)
  replace hB := hB.trans (hb3.mono hB.size)
  clear hb3
  obtain ⟨zz, HZZ⟩ : ∃ z, Hid (zeros n = z) := ⟨_, rfl⟩
  rw [HZZ.out] at HFN HG1 ⊢
  have d1 : ((zz.length : Int) == (x1 - x0) * (y1 - y0)) = true := by rw [← HZZ.out, zeros_length, HN.out]; simp
  have d2 : (x1 - x0 == x1 - x0) = true := by simp
  have aw : Below w3.heap.size w3 (w3.alloc (.cells #[.int .i64 x0, .int .i64 y0, .int .i64 x1, .int .i64 y1, .int .i64 (x1 - x0), .slice G1 zz.length h1, .slice G2 ps.length h2] 27)) := (Below.refl _ _).alloc (Nat.le_refl _) _
  replace R0 := cell_kept R0 aw
  replace R1 := cell_kept R1 aw
  replace R2 := cell_kept R2 aw
  replace R3 := cell_kept R3 aw
  replace HP := Lib.hid (HP.out.below aw)
  replace HG1 := Lib.hid (HG1.out.below aw)
  replace HG2 := Lib.hid (HG2.out.below aw)
  replace hB := hB.trans (aw.mono hB.size)
  have M0 : (w3.alloc (.cells #[.int .i64 x0, .int .i64 y0, .int .i64 x1, .int .i64 y1, .int .i64 (x1 - x0), .slice G1 zz.length h1, .slice G2 ps.length h2] 27)).cell? ⟨w3.heap.size, 0, none⟩ = some (.int .i64 x0) := by simp
  have M1 : (w3.alloc (.cells #[.int .i64 x0, .int .i64 y0, .int .i64 x1, .int .i64 y1, .int .i64 (x1 - x0), .slice G1 zz.length h1, .slice G2 ps.length h2] 27)).cell? ⟨w3.heap.size, 1, none⟩ = some (.int .i64 y0) := by simp
  have M2 : (w3.alloc (.cells #[.int .i64 x0, .int .i64 y0, .int .i64 x1, .int .i64 y1, .int .i64 (x1 - x0), .slice G1 zz.length h1, .slice G2 ps.length h2] 27)).cell? ⟨w3.heap.size, 2, none⟩ = some (.int .i64 x1) := by simp
  have M3 : (w3.alloc (.cells #[.int .i64 x0, .int .i64 y0, .int .i64 x1, .int .i64 y1, .int .i64 (x1 - x0), .slice G1 zz.length h1, .slice G2 ps.length h2] 27)).cell? ⟨w3.heap.size, 3, none⟩ = some (.int .i64 y1) := by simp
  have M4 : (w3.alloc (.cells #[.int .i64 x0, .int .i64 y0, .int .i64 x1, .int .i64 y1, .int .i64 (x1 - x0), .slice G1 zz.length h1, .slice G2 ps.length h2] 27)).cell? ⟨w3.heap.size, 4, none⟩ = some (.int .i64 (x1 - x0)) := by simp
  have M5 : (w3.alloc (.cells #[.int .i64 x0, .int .i64 y0, .int .i64 x1, .int .i64 y1, .int .i64 (x1 - x0), .slice G1 zz.length h1, .slice G2 ps.length h2] 27)).cell? ⟨w3.heap.size, 5, none⟩ = some (.slice G1 zz.length h1) := by simp
  have M6 : (w3.alloc (.cells #[.int .i64 x0, .int .i64 y0, .int .i64 x1, .int .i64 y1, .int .i64 (x1 - x0), .slice G1 zz.length h1, .slice G2 ps.length h2] 27)).cell? ⟨w3.heap.size, 6, none⟩ = some (.slice G2 ps.length h2) := by simp
  have hltWA : w3.heap.size < (w3.alloc (.cells #[.int .i64 x0, .int .i64 y0, .int .i64 x1, .int .i64 y1, .int .i64 (x1 - x0), .slice G1 zz.length h1, .slice G2 ps.length h2] 27)).heap.size := by simp
  clear aw
  go_wp2_with fail
  generalize w3.alloc (.cells #[.int .i64 x0, .int .i64 y0, .int .i64 x1, .int .i64 y1, .int .i64 (x1 - x0), .slice G1 zz.length h1, .slice G2 ps.length h2] 27) = WA at *
  generalize w3.heap.size = ba at *
  rw [← HZZ.out]
  rw [← HZZ.out] at HG1
  refine (contains_zeros G1 n h1 _ hn2 HG1).mono ?_
  rintro e w' ⟨rfl, rfl⟩
  go_wp2
  go_ret
  exact ⟨by simp, hB⟩

theorem walk_newBlank (x0 y0 x1 y1 : Int) (B : Option Addr) (k : Nat) (ps : List (Int × Int × Int × Int)) (w : World) (pr : Hid (PReads w B ps)) (pl : (ps.length : Int) ≤ 2097152) :
    Calls Try.prog 11 #[.agg #[.int .i64 x0, .int .i64 y0, .int .i64 x1, .int .i64 y1], .slice B ps.length k] w fun e w' => e = .returned (.bool true) ∧ Below w.heap.size w w' := by
  by_cases hF : Fair x0 y0 x1 y1
  · exact blank_fair x0 y0 x1 y1 B k ps w pr pl hF
  · exact blank_unfair x0 y0 x1 y1 B k ps w pr pl hF

end Go.Proofs.Ytkhgobeeaiagfaa
