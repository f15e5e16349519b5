/- The walk of the law FnAlpha16Opaque. -/
import Derived.Test.YtcflhlcbajfiaaaOpqM
import Derived.Test.YtcflhlcbajfiaaaCut
namespace Go.Proofs.Ytcflhlcbajfiaaa
open Go.RowKit
set_option linter.unusedVariables false
set_option linter.unusedSimpArgs false

theorem allN_true {f : Nat → Bool} : ∀ (m : Nat), (∀ n, n < m → f n = true) → allN f m = true
  | 0, _ => rfl
  | m + 1, h => by unfold allN; rw [allN_true m (fun n hn => h n (by omega)), h m (by omega)]; rfl
theorem allOpq_empty {zs : List Int} {s x0 y0 x1 y1 : Int} {wd ht : Nat} (hE : Empt x0 y0 x1 y1) (hw : x1 - x0 = wd) (hh : y1 - y0 = ht) : allOpq zs s wd ht = true := by
  unfold Empt at hE
  rcases hE with h | h
  · have : wd = 0 := by omega
    subst this
    exact allN_true _ (fun _ _ => rfl)
  · have : ht = 0 := by omega
    subst this
    rfl
theorem opq_num {zs : List Int} (hy : Bytes zs) {s : Int} {i j k : Nat} (h : (i : Int) * s + (j : Int) * 2 = k) : opq zs s i j = decide (numAt zs (k) = 65535) := by
  unfold opq
  rw [h]
  rw [show ((k : Int) + (2 - 2)).toNat = k + 0 by omega]
  have h0 := hy.get (k + 0)
  have h1 := hy.get (k + 0 + 1)
  unfold numAt
  simp only [decide_eq_decide, Nat.add_zero] at *
  omega

theorem implOpaque_any (x0 y0 x1 y1 s : Int) (A : Option Addr) (c : Nat) (zs : List Int) (w : World) (hr : Hid (Reads w A zs)) (hy : Hid (Bytes zs)) (hl : Small zs) (hn : Hid (A = none → c = 0)) (hF : Hid (Fits x0 y0 x1 y1 s 2 zs.length)) (wd ht : Nat) (HW : Hid (x1 - x0 = wd)) (HH : Hid (y1 - y0 = ht)) (res : Bool) (HRS : Hid (allOpq zs s wd ht = res)) :
    Calls Try.prog 25 #[.agg #[.int .i64 x0, .int .i64 y0, .int .i64 x1, .int .i64 y1, .int .i64 s, .slice A zs.length c]] w fun e w' => e = .returned (.bool res) ∧ Below w.heap.size w w' := by
  have hln : (zs.length : Int) ≤ 140737488351232 := by unfold Small at hl; omega
  go_enter Try.func25, Try.ntmps25
  go_wp2_with fail
  refine (to_any x0 y0 x1 y1 s A c zs _ (hr.out.below ((Below.refl _ _).alloc (Nat.le_refl _) _)) hl hn.out).mono ?_
  rintro e w1 ⟨g, A', c', rfl, hgb, hg, hown, hb1⟩
  have hB : Below w.heap.size w w1 := ((Below.refl _ _).alloc (Nat.le_refl _) _).trans (hb1.mono (by simp))
  have HG := Lib.hid hg
  have HO := Lib.hid hown
  clear hg hown hb1
  by_cases hE : Empt x0 y0 x1 y1
  · obtain rfl : res = true := HRS.out.symm.trans (allOpq_empty hE HW.out HH.out)
    have HE := Lib.hid hE
    clear hE
    go_wp2_with fail
    refine (opaqueM_empty g c' A' zs s x0 y0 x1 y1 _ HG.out HE).mono ?_
    rintro e w2 ⟨rfl, hb2⟩
    go_wp2
    go_ret
    exact ⟨rfl, hB.trans (hb2.mono hB.size)⟩
  · have HE := Lib.hid hE
    have hp : 0 < zs.length := by
      have hI : Insd x0 y0 x1 y1 x0 y0 := by unfold Empt at hE; unfold Insd; omega
      have := hF.out.at_ (by omega) hI
      omega
    clear hE
    obtain ⟨bb, ms, rfl, _⟩ := own_block HO.out hp
    go_wp2_with fail
    refine (opaqueM_full g bb 0 c' zs s x0 y0 x1 y1 wd ht _ HG.out (Reads.of_own HO.out) hln hF HE HW.out HH.out).mono ?_
    rintro e w2 ⟨rfl, hb2⟩
    rw [HRS.out]
    go_wp2
    go_ret
    exact ⟨rfl, hB.trans (hb2.mono hB.size)⟩

theorem opaque_unfit (x0 y0 x1 y1 s : Int) (A : Option Addr) (c : Nat) (zs : List Int) (w : World) (hr : Hid (Reads w A zs)) (hy : Hid (Bytes zs)) (hl : Small zs) (hn : Hid (A = none → c = 0)) (hF : Hid (¬ Fits x0 y0 x1 y1 s 2 zs.length)) :
    Calls Try.prog 6 #[.agg #[.int .i64 x0, .int .i64 y0, .int .i64 x1, .int .i64 y1, .int .i64 s, .slice A zs.length c]] w fun e w' => e = .returned (.bool true) ∧ Below w.heap.size w w' := by
  go_enter Try.func6, Try.ntmps6
  go_wp2_with fail
  refine (fitsK_any x0 y0 x1 y1 s A c zs false (by simp [hF.out]) _).mono ?_
  rintro e w1 ⟨rfl, hb1⟩
  obtain ⟨hz1, hB1, _⟩ := keep6 hb1 (start6 w _ _ _ _ _ _ _ )
  clear hb1
  go_wp2
  go_ret
  exact ⟨by simp, hB1⟩

set_option maxRecDepth 100000 in
set_option maxHeartbeats 4000000 in
theorem opaque_fit (x0 y0 x1 y1 s : Int) (A : Option Addr) (c : Nat) (zs : List Int) (w : World) (hr : Hid (Reads w A zs)) (hy : Hid (Bytes zs)) (hl : Small zs) (hn : Hid (A = none → c = 0)) (hF : Hid (Fits x0 y0 x1 y1 s 2 zs.length)) (wd ht : Nat) (HW : Hid (x1 - x0 = wd)) (HH : Hid (y1 - y0 = ht)) :
    Calls Try.prog 6 #[.agg #[.int .i64 x0, .int .i64 y0, .int .i64 x1, .int .i64 y1, .int .i64 s, .slice A zs.length c]] w fun e w' => e = .returned (.bool true) ∧ Below w.heap.size w w' := by
  obtain ⟨⟨⟨⟨f1, f2⟩, ⟨f3, f4⟩, ⟨f5, f6⟩, ⟨f7, f8⟩⟩, _⟩, _⟩ := id hF.out
  have hx0 : x0 ≤ x1 := by have := HW.out; omega
  have hy0 : y0 ≤ y1 := by have := HH.out; omega
  go_enter Try.func6, Try.ntmps6
  go_wp2_with fail
  refine (fitsK_any x0 y0 x1 y1 s A c zs true (by simp [hF.out]) _).mono ?_
  rintro e w1 ⟨rfl, hb1⟩
  have S1 := keep6 hb1 (start6 w _ _ _ _ _ _ _ )
  obtain ⟨hz1, hB1, c0, c1, c2, c3, c4, c5⟩ := id S1
  have HS := Lib.hid S1
  clear hb1 S1
  go_wp2
  go_loopw [3, 4] (fun al y wr => ∃ (i : Nat) (a : Bool) (e : Int), i ≤ ht ∧ al = .bool a ∧ y = .int .i64 e ∧ Hid (e = y0 + i) ∧ Hid (a = allN (rowOpq zs s wd) i) ∧ Hid (w.heap.size < wr.heap.size ∧ Below w.heap.size w wr ∧ wr.cell? ⟨w.heap.size, 0, none⟩ = some (.int .i64 x0) ∧ wr.cell? ⟨w.heap.size, 1, none⟩ = some (.int .i64 y0) ∧ wr.cell? ⟨w.heap.size, 2, none⟩ = some (.int .i64 x1) ∧ wr.cell? ⟨w.heap.size, 3, none⟩ = some (.int .i64 y1) ∧ wr.cell? ⟨w.heap.size, 4, none⟩ = some (.int .i64 s) ∧ wr.cell? ⟨w.heap.size, 5, none⟩ = some (.slice A zs.length c))) (fun _ y _ => (y1 - intOf y).toNat)
  case atStart => exact ⟨0, true, y0, Nat.zero_le _, rfl, rfl, show Hid _ from (by unfold Hid; omega), show Hid _ from rfl, HS⟩
  case round =>
    obtain ⟨i, a0, e, hi, rfl, rfl, HE, HA, KR⟩ := hrel
    clear HS c0 c1 c2 c3 c4 c5 hz1 hB1
    obtain ⟨hzr, hBr, c0, c1, c2, c3, c4, c5⟩ := id KR.out
    obtain ⟨e1, e2⟩ : y0 ≤ e ∧ e ≤ y1 := by have := HE.out; have := HH.out; omega
    by_cases hlt : e < y1
    · go_wp2
      go_loopw [3, 5] (fun al x wr => ∃ (j : Nat) (a : Bool) (u : Int), j ≤ wd ∧ al = .bool a ∧ x = .int .i64 u ∧ Hid (u = x0 + j) ∧ Hid (a = (allN (rowOpq zs s wd) i && allN (opq zs s i) j)) ∧ Hid (w.heap.size < wr.heap.size ∧ Below w.heap.size w wr ∧ wr.cell? ⟨w.heap.size, 0, none⟩ = some (.int .i64 x0) ∧ wr.cell? ⟨w.heap.size, 1, none⟩ = some (.int .i64 y0) ∧ wr.cell? ⟨w.heap.size, 2, none⟩ = some (.int .i64 x1) ∧ wr.cell? ⟨w.heap.size, 3, none⟩ = some (.int .i64 y1) ∧ wr.cell? ⟨w.heap.size, 4, none⟩ = some (.int .i64 s) ∧ wr.cell? ⟨w.heap.size, 5, none⟩ = some (.slice A zs.length c))) (fun _ x _ => (x1 - intOf x).toNat)
      case atStart => exact ⟨0, a0, x0, Nat.zero_le _, rfl, rfl, show Hid _ from (by unfold Hid; omega), show Hid _ from (by unfold Hid; rw [HA.out, allN, Bool.and_true]), KR⟩
      case round =>
        obtain ⟨j, a, u, hj, rfl, rfl, HU, HP, KR'⟩ := hrel
        clear KR c0 c1 c2 c3 c4 c5 hzr hBr
        have KR := KR'
        clear KR'
        obtain ⟨hzr, hBr, c0, c1, c2, c3, c4, c5⟩ := id KR.out
        obtain ⟨u1', u2'⟩ : x0 ≤ u ∧ u ≤ x1 := by have := HU.out; have := HW.out; omega
        by_cases hjl : u < x1
        · have hI : Hid (Insd x0 y0 x1 y1 u e) := ⟨u1', hjl, e1, hlt⟩
          obtain ⟨b1, b2, b3, b4⟩ : -4398046511104 ≤ e - y0 ∧ e - y0 ≤ 4398046511104 ∧ -4398046511104 ≤ u - x0 ∧ u - x0 ≤ 4398046511104 := near_point hF.out hI.out
          obtain ⟨p1, p2⟩ : -2305843009213693952 ≤ (e - y0) * s ∧ (e - y0) * s ≤ 2305843009213693952 := (by have := hF.out.prods hI.out; omega)
          obtain ⟨k, hK, hk⟩ := hF.out.place (z := 2) rfl hI.out
          have HK := Lib.hid hK
          have Hk : Hid (k + 1 < zs.length) := by unfold Hid; omega
          have HQ : Hid (opq zs s i j = decide (numAt zs k = 65535)) := by
            refine opq_num hy.out ?_
            rw [← hK, show e - y0 = i by have := HE.out; omega, show u - x0 = j by have := HU.out; omega]
          have hjw : j < wd := by have := HU.out; have := HW.out; omega
          obtain ⟨b, o, rfl⟩ := hr.out.addr (by have := Hk.out; omega)
          have HRr : Hid (Reads wr (some ⟨b, o, none⟩) zs) := hr.out.below hBr
          have HRw : Hid (Reads w (some ⟨b, o, none⟩) zs) := hr
          clear hK hk
          have S0 := keep6 ((Below.refl wr.heap.size wr).drew) KR.out
          go_wp2_with fail
          go_region_held3 (fun w' => w.heap.size < w'.heap.size ∧ Below w.heap.size w w' ∧ w'.cell? ⟨w.heap.size, 0, none⟩ = some (.int .i64 x0) ∧ w'.cell? ⟨w.heap.size, 1, none⟩ = some (.int .i64 y0) ∧ w'.cell? ⟨w.heap.size, 2, none⟩ = some (.int .i64 x1) ∧ w'.cell? ⟨w.heap.size, 3, none⟩ = some (.int .i64 y1) ∧ w'.cell? ⟨w.heap.size, 4, none⟩ = some (.int .i64 s) ∧ w'.cell? ⟨w.heap.size, 5, none⟩ = some (.slice (some ⟨b, o, none⟩) zs.length c))
            (first | with_reducible exact S2 | with_reducible exact S1 | with_reducible exact S0)
            (first | (go_at_call 19; refine (atK_any x0 y0 x1 y1 s _ _ _ c zs _ b1 b2 b3 b4 p1 p2).mono ?_; rintro e u1 ⟨rfl, hv1⟩; rw [HK.out]; have S1 := keep6 hv1 S0) | (go_at_call 24; refine (number_any b o c k zs _ ?_ hy.out hl Hk.out).mono ?_; exact HRw.out.below S1.2.1; rintro e u2 ⟨rfl, hv2⟩; have S2 := keep6 hv2 S1))
          have hBx : Below w.heap.size w u2 := S2.2.1
          have T1 := Lib.hid S2
          clear c0 c1 c2 c3 c4 c5 S0 S1 S2 hv1 hv2
          generalize numAt zs k = n3 at HQ ⊢
          by_cases h3 : n3 = 65535
          · subst h3
            have HQ : Hid (opq zs s i j = true) := by unfold Hid; rw [HQ.out]; rfl
            cases a
            all_goals
              go_wp2
              go_roundw
              case rel => exact ⟨j + 1, _, u + 1, by omega, rfl, by go_num, show Hid _ from (by unfold Hid; have := HU.out; omega), show Hid _ from (by unfold Hid; rw [allN, ← Bool.and_assoc, ← HP.out, HQ.out]; rfl), T1⟩
              case measure => simp [intOf]; omega
          · have HQ : Hid (opq zs s i j = false) := by unfold Hid; rw [HQ.out]; simp [h3]
            have h3a : (n3 == 65535) = false := by simpa using h3
            have h3b : (n3 != 65535) = true := by simpa using h3
            cases a
            all_goals
              go_wp2
              go_roundw
              case rel => exact ⟨j + 1, _, u + 1, by omega, rfl, by go_num, show Hid _ from (by unfold Hid; have := HU.out; omega), show Hid _ from (by unfold Hid; rw [allN, ← Bool.and_assoc, ← HP.out, HQ.out]; rfl), T1⟩
              case measure => simp [intOf]; omega
        · have HR1 : Hid (a = allN (rowOpq zs s wd) (i + 1)) := by
            unfold Hid; rw [HP.out, allN, rowOpq, show wd = j by have := HU.out; have := HW.out; omega]
          clear HP
          go_wp2
          go_roundw
          case rel => exact ⟨i + 1, a, e + 1, by have := HE.out; have := HH.out; omega, rfl, by go_num, show Hid _ from (by unfold Hid; have := HE.out; omega), HR1, KR⟩
          case measure => simp [intOf]; omega
    · have HX : Hid (allOpq zs s wd ht = a0) := by unfold Hid allOpq; rw [show ht = i by have := HE.out; have := HH.out; omega]; exact HA.out.symm
      clear HA
      go_wp2_with fail
      refine (implOpaque_any x0 y0 x1 y1 s A c zs _ (hr.out.below hBr) hy hl hn hF wd ht HW HH a0 HX).mono ?_
      rintro e w2 ⟨rfl, hb2⟩
      go_wp2
      go_ret
      exact ⟨by simp, hBr.trans (hb2.mono hBr.size)⟩

theorem walk_opaque (x0 y0 x1 y1 s : Int) (A : Option Addr) (c : Nat) (zs : List Int) (w : World) (hr : Hid (Reads w A zs)) (hy : Hid (Bytes zs)) (hl : Small zs) (hn : Hid (A = none → c = 0)) :
    Calls Try.prog 6 #[.agg #[.int .i64 x0, .int .i64 y0, .int .i64 x1, .int .i64 y1, .int .i64 s, .slice A zs.length c]] w fun e w' => e = .returned (.bool true) ∧ Below w.heap.size w w' := by
  by_cases hF : Fits x0 y0 x1 y1 s 2 zs.length
  · have h1 := hF.1.2.1
    have h2 := hF.1.2.2.1
    exact opaque_fit x0 y0 x1 y1 s A c zs w hr hy hl hn hF (x1 - x0).toNat (y1 - y0).toNat (show Hid _ from (by unfold Hid; omega)) (show Hid _ from (by unfold Hid; omega))
  · exact opaque_unfit x0 y0 x1 y1 s A c zs w hr hy hl hn hF

end Go.Proofs.Ytcflhlcbajfiaaa
