/- The method Opaque of a film. -/
import Derived.Test.YtcomldkihibfjaaFilmLaw
import Derived.Test.YtcomldkihibfjaaPlainOpq
import Derived.Test.YtcomldkihibfjaaInter
namespace Go.Proofs.Ytcomldkihibfjaa
open Go.RowKit
set_option linter.unusedVariables false
set_option linter.unusedSimpArgs false


theorem opaqueM_empty (g : Nat) (x0 y0 x1 y1 rt ys cs at4 : Int) (A1 A2 A3 A4 : Option Addr) (c1 c2 c3 c4 : Nat) (z1 z2 z3 z4 : List Int) (w : World) (hg : w.heap[g]? = some (.cells #[.slice A1 z1.length c1, .slice A2 z2.length c2, .slice A3 z3.length c3, .int .i64 ys, .int .i64 cs, .int .i64 rt, .int .i64 x0, .int .i64 y0, .int .i64 x1, .int .i64 y1, .slice A4 z4.length c4, .int .i64 at4] 83 (0, 0))) (hE : Hid (Empt x0 y0 x1 y1)) :
    Calls Try.prog 40 #[.pointer (some ⟨g, 0, none⟩)] w fun e w' => e = .returned (.bool true) ∧ Below w.heap.size w w' := by
  have g0 := cell_of_row w g 0 _ _ _ hg
  have g1 := cell_of_row w g 1 _ _ _ hg
  have g2 := cell_of_row w g 2 _ _ _ hg
  have g3 := cell_of_row w g 3 _ _ _ hg
  have g4 := cell_of_row w g 4 _ _ _ hg
  have g5 := cell_of_row w g 5 _ _ _ hg
  have g6 := cell_of_row w g 6 _ _ _ hg
  have g7 := cell_of_row w g 7 _ _ _ hg
  have g8 := cell_of_row w g 8 _ _ _ hg
  have g9 := cell_of_row w g 9 _ _ _ hg
  have g10 := cell_of_row w g 10 _ _ _ hg
  have g11 := cell_of_row w g 11 _ _ _ hg
  simp at g0 g1 g2 g3 g4 g5 g6 g7 g8 g9 g10 g11
  clear hg
  go_enter Try.func40, Try.ntmps40
  go_wp2_with fail
  refine (rempt_any x0 y0 x1 y1 true (by simp [hE.out]) _).mono ?_
  rintro e w1 ⟨rfl, hb1⟩
  go_wp2
  go_ret
  exact ⟨rfl, hb1⟩

set_option maxRecDepth 100000 in
set_option maxHeartbeats 2000000 in
theorem opaqueM_full (g b : Nat) (x0 y0 x1 y1 rt ys cs at4 : Int) (A1 A2 A3 A4 : Option Addr) (c1 c2 c3 c4 : Nat) (z1 z2 z3 z4 : List Int) (wd ht : Nat) (w : World) (hg : w.heap[g]? = some (.cells #[.slice A1 z1.length c1, .slice A2 z2.length c2, .slice A3 z3.length c3, .int .i64 ys, .int .i64 cs, .int .i64 rt, .int .i64 x0, .int .i64 y0, .int .i64 x1, .int .i64 y1, .slice (some ⟨b, 0, none⟩) z4.length c4, .int .i64 at4] 83 (0, 0)))
    (hr : Hid (Reads w (some ⟨b, 0, none⟩) z4)) (hl : (z4.length : Int) ≤ 140737488351232) (hc : (z4.length : Int) ≤ c4) (hF : Hid (Fits x0 y0 x1 y1 at4 1 z4.length)) (hE : Hid (¬ Empt x0 y0 x1 y1))
    (hw : x1 - x0 = wd) (hh : y1 - y0 = ht) :
    Calls Try.prog 40 #[.pointer (some ⟨g, 0, none⟩)] w fun e w' => e = .returned (.bool (allOpq z4 at4 wd ht)) ∧ Below w.heap.size w w' := by
  have g0 := cell_of_row w g 0 _ _ _ hg
  have g1 := cell_of_row w g 1 _ _ _ hg
  have g2 := cell_of_row w g 2 _ _ _ hg
  have g3 := cell_of_row w g 3 _ _ _ hg
  have g4 := cell_of_row w g 4 _ _ _ hg
  have g5 := cell_of_row w g 5 _ _ _ hg
  have g6 := cell_of_row w g 6 _ _ _ hg
  have g7 := cell_of_row w g 7 _ _ _ hg
  have g8 := cell_of_row w g 8 _ _ _ hg
  have g9 := cell_of_row w g 9 _ _ _ hg
  have g10 := cell_of_row w g 10 _ _ _ hg
  have g11 := cell_of_row w g 11 _ _ _ hg
  simp at g0 g1 g2 g3 g4 g5 g6 g7 g8 g9 g10 g11
  clear hg
  obtain ⟨⟨⟨⟨f1, f2⟩, ⟨f3, f4⟩, ⟨f5, f6⟩, ⟨f7, f8⟩⟩, f9, f10, f11, f12, _⟩, ⟨s1, s2⟩, _⟩ := id hF.out
  have hwd : (wd : Int) ≤ 65536 := by omega
  have hht : (ht : Int) ≤ 65536 := by omega
  have HW := Lib.hid hw
  have HH := Lib.hid hh
  obtain ⟨n1, n2⟩ : x0 < x1 ∧ y0 < y1 := by have := hE.out; unfold Empt at this; omega
  clear hw hh f9 f10 f11 f12
  go_enter Try.func40, Try.ntmps40
  go_wp2_with fail
  refine (rempt_any x0 y0 x1 y1 false (by simp [hE.out]) _).mono ?_
  rintro e w1 ⟨rfl, hb1⟩
  replace g0 := cell_kept g0 hb1
  replace g1 := cell_kept g1 hb1
  replace g2 := cell_kept g2 hb1
  replace g3 := cell_kept g3 hb1
  replace g4 := cell_kept g4 hb1
  replace g5 := cell_kept g5 hb1
  replace g6 := cell_kept g6 hb1
  replace g7 := cell_kept g7 hb1
  replace g8 := cell_kept g8 hb1
  replace g9 := cell_kept g9 hb1
  replace g10 := cell_kept g10 hb1
  replace g11 := cell_kept g11 hb1
  go_wp2_with fail
  refine (dx_any x0 y0 x1 y1 _ (by omega) (by omega)).mono ?_
  rintro e w2 ⟨rfl, hb2⟩
  rw [HW.out]
  replace g0 := cell_kept g0 hb2
  replace g1 := cell_kept g1 hb2
  replace g2 := cell_kept g2 hb2
  replace g3 := cell_kept g3 hb2
  replace g4 := cell_kept g4 hb2
  replace g5 := cell_kept g5 hb2
  replace g6 := cell_kept g6 hb2
  replace g7 := cell_kept g7 hb2
  replace g8 := cell_kept g8 hb2
  replace g9 := cell_kept g9 hb2
  replace g10 := cell_kept g10 hb2
  replace g11 := cell_kept g11 hb2
  have hB : Below w.heap.size w w2 := hb1.trans (hb2.mono hb1.size)
  have HR := Lib.hid (hr.out.below hB)
  clear hb1 hb2 hr g0 g1 g2 g3 g4 g5
  go_wp2
  go_loop [3, 4, 5] (fun p r y => ∃ (i : Nat) (a d e : Int), i ≤ ht ∧ p = .int .i64 a ∧ r = .int .i64 d ∧ y = .int .i64 e ∧ Hid (a = (i : Int) * at4) ∧ Hid (d = (i : Int) * at4 + (wd : Int)) ∧ Hid (e = y0 + i) ∧ Hid (allN (rowOpq z4 at4 wd) i = true)) (fun _ _ y => (y1 - intOf y).toNat)
  case atStart => exact ⟨0, 0, (wd : Int), y0, Nat.zero_le _, rfl, rfl, rfl, show Hid _ from (by unfold Hid; omega), show Hid _ from (by unfold Hid; omega), show Hid _ from (by unfold Hid; omega), show Hid _ from rfl⟩
  case round =>
    obtain ⟨i, a, d, e, hi, rfl, rfl, rfl, HA, HD, HE, HO⟩ := hrel
    have mb := mul_bd (a := (i : Int)) (b := at4) (A := 65536) (B := 1099511627776) (by omega) (by omega) (by omega) (by omega)
    obtain ⟨a1, a2, d1, d2, e1, e2⟩ : -72057594037927936 ≤ a ∧ a ≤ 72057594037928000 ∧ -72057594037927936 ≤ d ∧ d ≤ 72057594038452224 ∧ y0 ≤ e ∧ e ≤ y1 := by
      have := HA.out; have := HD.out; have := HE.out; have := HH.out; omega
    clear mb
    by_cases hlt : e < y1
    · obtain ⟨ka, rfl, kd, rfl, hka, hkd⟩ : ∃ ka : Nat, a = (ka : Int) ∧ ∃ kd : Nat, d = (kd : Int) ∧ kd = ka + wd ∧ kd ≤ z4.length := by
        have hIa : Insd x0 y0 x1 y1 x0 (y0 + i) := by have := HE.out; unfold Insd; omega
        have hIb : Insd x0 y0 x1 y1 (x1 - 1) (y0 + i) := by have := HE.out; unfold Insd; omega
        obtain ⟨k, hk, hkn⟩ := hF.out.place (z := 1) rfl hIa
        obtain ⟨k', hk', hkn'⟩ := hF.out.place (z := 1) rfl hIb
        rw [show y0 + (i : Int) - y0 = i by omega] at hk hk'
        have := HA.out; have := HD.out; have := HW.out
        exact ⟨k, by omega, k + wd, by omega, rfl, by omega⟩
      have j0 : (0 : Int) ≤ (ka : Int) := by omega
      have j1 : (ka : Int) ≤ (kd : Int) := by omega
      have j2 : (kd : Int) ≤ (c4 : Int) := by omega
      have j3 : (0 : Int) ≤ (kd : Int) := by omega
      have j4 : kd - ka = wd := by omega
      have j5 : ((wd : Nat) : Int) ≤ 65536 := hwd
      have j9 : 0 < wd := by have := HW.out; omega
      have j6 : ¬ ka = c4 := by omega
      have j7 : ¬ c4 = ka := by omega
      have j8 : ¬ c4 - ka = 0 := by omega
      have ja : (ka : Int) < (c4 : Int) := by omega
      go_wp2
      go_loop [46] (fun q => ∃ j : Nat, j ≤ wd ∧ q = .int .i64 j ∧ Hid (allN (opq z4 at4 i) j = true)) (fun q => wd - (intOf q).toNat)
      case atStart => exact ⟨0, Nat.zero_le _, rfl, show Hid _ from rfl⟩
      case round =>
        obtain ⟨j, hj, rfl, HP⟩ := hrel
        by_cases hjl : j < wd
        · have i0 : (0 : Int) ≤ (j : Int) := by omega
          have i1 : (j : Int) < (wd : Int) := by omega
          have q0 := HR.out.cell (j := ka + j) (by omega)
          rw [Nat.zero_add] at q0
          have HQ : Hid (opq z4 at4 i j = decide (z4.getD (ka + j) 0 = 255)) := by
            unfold Hid opq
            have := HA.out
            rw [← this, show ((ka : Int) + (j : Int)).toNat = ka + j by omega]
          generalize z4.getD (ka + j) 0 = z0 at q0 HQ
          by_cases hz0 : z0 = 255
          · subst hz0
            go_wp2
            go_round
            case rel => exact ⟨j + 1, by omega, by go_num, show Hid _ from (by unfold Hid; rw [allN, HP.out, HQ.out]; rfl)⟩
            case measure => simp [intOf]; omega
          · have hzz : (z0 == 255) = false := by simpa using hz0
            have hzz2 : (z0 != 255) = true := by simpa using hz0
            have HX : Hid (allOpq z4 at4 wd ht = false) := by
              unfold Hid allOpq
              refine allN_false (n := i) (by have := HE.out; have := HH.out; omega) ?_
              unfold rowOpq
              refine allN_false (n := j) hjl ?_
              rw [HQ.out]; simp [hz0]
            clear HQ HP HO
            go_wp2
            go_ret
            exact ⟨by rw [HX.out]; rfl, hB⟩
        · have HR1 : Hid (rowOpq z4 at4 wd i = true) := by unfold Hid rowOpq; rw [show wd = j by omega]; exact HP.out
          have hjw : ¬ (j : Int) < (wd : Int) := by omega
          clear HP
          go_wp2
          go_round
          case rel => exact ⟨i + 1, (ka : Int) + at4, (kd : Int) + at4, e + 1, by have := HE.out; have := HH.out; omega, by go_num, by go_num, by go_num, show Hid _ from (by unfold Hid; rw [succ_mul']; have := HA.out; omega), show Hid _ from (by unfold Hid; rw [succ_mul']; have := HD.out; omega), show Hid _ from (by unfold Hid; have := HE.out; omega), show Hid _ from (by unfold Hid; rw [allN, HO.out, HR1.out]; rfl)⟩
          case measure => simp [intOf]; omega
    · have HX : Hid (allOpq z4 at4 wd ht = true) := by unfold Hid allOpq; rw [show ht = i by have := HE.out; have := HH.out; omega]; exact HO.out
      clear HO
      go_wp2
      go_ret
      exact ⟨by rw [HX.out]; rfl, hB⟩

end Go.Proofs.Ytcomldkihibfjaa
