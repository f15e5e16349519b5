/- The method Opaque of an image. -/
import Derived.Test.YtcflhlcbajfiaaaWAt
import Derived.Test.YtcflhlcbajfiaaaPlainOpq
import Derived.Test.YtcflhlcbajfiaaaCommon
import Derived.Test.YtcflhlcbajfiaaaNew
namespace Go.Proofs.Ytcflhlcbajfiaaa
open Go.RowKit
set_option linter.unusedVariables false
set_option linter.unusedSimpArgs false

theorem opaqueM_empty (g c : Nat) (A : Option Addr) (zs : List Int) (s x0 y0 x1 y1 : Int) (w : World) (hg : w.heap[g]? = some (.cells #[.slice A zs.length c, .int .i64 s, .int .i64 x0, .int .i64 y0, .int .i64 x1, .int .i64 y1] 99 (0, 0))) (hE : Hid (Empt x0 y0 x1 y1)) :
    Calls Try.prog 48 #[.pointer (some ⟨g, 0, none⟩)] w fun e w' => e = .returned (.bool true) ∧ Below w.heap.size w w' := by
  have g0 := cell_of_row w g 0 _ _ _ hg
  have g1 := cell_of_row w g 1 _ _ _ hg
  have g2 := cell_of_row w g 2 _ _ _ hg
  have g3 := cell_of_row w g 3 _ _ _ hg
  have g4 := cell_of_row w g 4 _ _ _ hg
  have g5 := cell_of_row w g 5 _ _ _ hg
  simp at g0 g1 g2 g3 g4 g5
  clear hg
  go_enter Try.func48, Try.ntmps48
  go_wp2_with fail
  refine (rempt_any x0 y0 x1 y1 true (by simp [hE.out]) _).mono ?_
  rintro e w1 ⟨rfl, hb1⟩
  go_wp2
  go_ret
  exact ⟨rfl, hb1⟩

set_option maxRecDepth 100000 in
set_option maxHeartbeats 2000000 in
theorem opaqueM_full (g b o c : Nat) (zs : List Int) (s x0 y0 x1 y1 : Int) (wd ht : Nat) (w : World) (hg : w.heap[g]? = some (.cells #[.slice (some ⟨b, o, none⟩) zs.length c, .int .i64 s, .int .i64 x0, .int .i64 y0, .int .i64 x1, .int .i64 y1] 99 (0, 0)))
    (hr : Hid (Reads w (some ⟨b, o, none⟩) zs)) (hl : (zs.length : Int) ≤ 140737488351232) (hF : Hid (Fits x0 y0 x1 y1 s 2 zs.length)) (hE : Hid (¬ Empt x0 y0 x1 y1))
    (hw : x1 - x0 = wd) (hh : y1 - y0 = ht) :
    Calls Try.prog 48 #[.pointer (some ⟨g, 0, none⟩)] w fun e w' => e = .returned (.bool (allOpq zs s wd ht)) ∧ Below w.heap.size w w' := by
  have g0 := cell_of_row w g 0 _ _ _ hg
  have g1 := cell_of_row w g 1 _ _ _ hg
  have g2 := cell_of_row w g 2 _ _ _ hg
  have g3 := cell_of_row w g 3 _ _ _ hg
  have g4 := cell_of_row w g 4 _ _ _ hg
  have g5 := cell_of_row w g 5 _ _ _ hg
  simp at g0 g1 g2 g3 g4 g5
  clear hg
  obtain ⟨⟨⟨⟨f1, f2⟩, ⟨f3, f4⟩, ⟨f5, f6⟩, ⟨f7, f8⟩⟩, f9, f10, f11, f12, _⟩, ⟨s1, s2⟩, _⟩ := id hF.out
  have hwd : (wd : Int) ≤ 65536 := by omega
  have hht : (ht : Int) ≤ 65536 := by omega
  have HW := Lib.hid hw
  have HH := Lib.hid hh
  obtain ⟨n1, n2⟩ : x0 < x1 ∧ y0 < y1 := by have := hE.out; unfold Empt at this; omega
  clear hw hh f9 f10 f11 f12
  go_enter Try.func48, Try.ntmps48
  go_wp2_with fail
  refine (rempt_any x0 y0 x1 y1 false (by simp [hE.out]) _).mono ?_
  rintro e w1 ⟨rfl, hb1⟩
  replace g0 := cell_kept g0 hb1
  replace g1 := cell_kept g1 hb1
  replace g2 := cell_kept g2 hb1
  replace g3 := cell_kept g3 hb1
  replace g4 := cell_kept g4 hb1
  replace g5 := cell_kept g5 hb1
  go_wp2_with fail
  refine (dx_any x0 y0 x1 y1 _ (by omega) (by omega)).mono ?_
  rintro e w2 ⟨rfl, hb2⟩
  rw [HW.out]
  replace g0 := cell_kept g0 hb2
  replace g1 := cell_kept g1 hb2
  replace g2 := cell_kept g2 hb2
  replace g3 := cell_kept g3 hb2
  replace g4 := cell_kept g4 hb2
  replace g5 := cell_kept g5 hb2
  have hB : Below w.heap.size w w2 := hb1.trans (hb2.mono hb1.size)
  have HR := Lib.hid (hr.out.below hB)
  clear hb1 hb2 hr
  go_wp2
  go_loop [3, 4, 5] (fun p r y => ∃ (i : Nat) (a d e : Int), i ≤ ht ∧ p = .int .i64 a ∧ r = .int .i64 d ∧ y = .int .i64 e ∧ Hid (a = (i : Int) * s + 0) ∧ Hid (d = (i : Int) * s + (wd : Int) * 2) ∧ Hid (e = y0 + i) ∧ Hid (allN (rowOpq zs s wd) i = true)) (fun _ _ y => (y1 - intOf y).toNat)
  case atStart => exact ⟨0, 0, (wd : Int) * 2, y0, Nat.zero_le _, rfl, rfl, rfl, show Hid _ from (by unfold Hid; omega), show Hid _ from (by unfold Hid; omega), show Hid _ from (by unfold Hid; omega), show Hid _ from rfl⟩
  case round =>
    obtain ⟨i, a, d, e, hi, rfl, rfl, rfl, HA, HD, HE, HO⟩ := hrel
    have mb := mul_bd (a := (i : Int)) (b := s) (A := 65536) (B := 1099511627776) (by omega) (by omega) (by omega) (by omega)
    obtain ⟨a1, a2, d1, d2, e1, e2⟩ : -72057594037927936 ≤ a ∧ a ≤ 72057594037928000 ∧ -72057594037927936 ≤ d ∧ d ≤ 72057594038452224 ∧ y0 ≤ e ∧ e ≤ y1 := by
      have := HA.out; have := HD.out; have := HE.out; have := HH.out; omega
    clear mb
    by_cases hlt : e < y1
    · go_wp2
      go_loop [6] (fun q => ∃ (j : Nat) (u : Int), j ≤ wd ∧ q = .int .i64 u ∧ Hid (u = a + (j : Int) * 2) ∧ Hid (allN (opq zs s i) j = true)) (fun q => (d + 16 - intOf q).toNat)
      case atStart => exact ⟨0, a, Nat.zero_le _, rfl, show Hid _ from (by unfold Hid; omega), show Hid _ from rfl⟩
      case round =>
        obtain ⟨j, u, hj, rfl, HU, HP⟩ := hrel
        have hu1 : -72057594037927936 ≤ u := by have := HU.out; omega
        have hu2 : u ≤ 72057594039000000 := by have := HU.out; omega
        by_cases hjl : j < wd
        · have hud : u < d := by have := HU.out; have := HD.out; have := HA.out; omega
          have hpl : ∃ k : Nat, u = (k : Int) ∧ (k : Int) + 2 ≤ zs.length ∧ ((i : Int) * s + (j : Int) * 2 + (2 - 2)).toNat = k := by
            have hI : Insd x0 y0 x1 y1 (x0 + j) (y0 + i) := by have := HW.out; have := HE.out; unfold Insd; omega
            obtain ⟨k, hk, hkn⟩ := hF.out.place (z := 2) rfl hI
            have e1 : (y0 + (i : Int) - y0) * s = (i : Int) * s := by rw [show y0 + (i : Int) - y0 = i by omega]
            rw [e1] at hk
            have := HU.out; have := HA.out
            exact ⟨k + 0, by omega, by omega, by omega⟩
          obtain ⟨k, rfl, hkn, hkk⟩ := hpl
          have i0 : (0 : Int) ≤ (k : Int) := by omega
          have i1 : (k : Int) < (zs.length : Int) := by omega
          have i2 : (k : Int) + 1 < (zs.length : Int) := by omega
          have i4 : ((k : Int) + 1).toNat = k + 1 := by omega
          have c0 := HR.out.cell (j := k) (by omega)
          have c1 := HR.out.cell (j := k + 1) (by omega)
          have HQ : Hid (opq zs s i j = decide (zs.getD k 0 = 255 ∧ zs.getD (k + 1) 0 = 255)) := by unfold Hid opq; rw [hkk]
          clear hkk hjl
          generalize zs.getD k 0 = z0 at c0 HQ
          generalize zs.getD (k + 1) 0 = z1 at c1 HQ
          by_cases hz0 : z0 = 255
          · subst hz0
            by_cases hz1 : z1 = 255
            · subst hz1
              go_wp2
              go_round
              case rel => exact ⟨j + 1, (k : Int) + 2, by have := HU.out; have := HD.out; have := HA.out; omega, by go_num, show Hid _ from (by unfold Hid; have := HU.out; omega), show Hid _ from (by unfold Hid; rw [allN, HP.out, HQ.out]; rfl)⟩
              case measure => simp [intOf]; omega
            · have hzz : (z1 == 255) = false := by simpa using hz1
              have hzz2 : (z1 != 255) = true := by simpa using hz1
              have HX : Hid (allOpq zs s wd ht = false) := by
                unfold Hid allOpq
                refine allN_false (n := i) (by have := HE.out; have := HH.out; omega) ?_
                unfold rowOpq
                refine allN_false (n := j) (by have := HU.out; have := HD.out; have := HA.out; omega) ?_
                rw [HQ.out]; simp [hz1]
              clear HQ HP HO
              go_wp2
              go_ret
              exact ⟨by rw [HX.out]; rfl, hB⟩
          · have hzz : (z0 == 255) = false := by simpa using hz0
            have hzz2 : (z0 != 255) = true := by simpa using hz0
            have HX : Hid (allOpq zs s wd ht = false) := by
              unfold Hid allOpq
              refine allN_false (n := i) (by have := HE.out; have := HH.out; omega) ?_
              unfold rowOpq
              refine allN_false (n := j) (by have := HU.out; have := HD.out; have := HA.out; omega) ?_
              rw [HQ.out]; simp [hz0]
            clear HQ HP HO
            go_wp2
            go_ret
            exact ⟨by rw [HX.out]; rfl, hB⟩
        · have hud : ¬ u < d := by have := HU.out; have := HD.out; have := HA.out; omega
          have HR1 : Hid (rowOpq zs s wd i = true) := by unfold Hid rowOpq; rw [show wd = j by omega]; exact HP.out
          clear HP hjl
          go_wp2
          go_round
          case rel => exact ⟨i + 1, a + s, d + s, e + 1, by have := HE.out; have := HH.out; omega, by go_num, by go_num, by go_num, show Hid _ from (by unfold Hid; rw [succ_mul']; have := HA.out; omega), show Hid _ from (by unfold Hid; rw [succ_mul']; have := HD.out; omega), show Hid _ from (by unfold Hid; have := HE.out; omega), show Hid _ from (by unfold Hid; rw [allN, HO.out, HR1.out]; rfl)⟩
          case measure => simp [intOf]; omega
    · have HX : Hid (allOpq zs s wd ht = true) := by unfold Hid allOpq; rw [show ht = i by have := HE.out; have := HH.out; omega]; exact HO.out
      clear HO
      go_wp2
      go_ret
      exact ⟨by rw [HX.out]; rfl, hB⟩

end Go.Proofs.Ytcflhlcbajfiaaa
