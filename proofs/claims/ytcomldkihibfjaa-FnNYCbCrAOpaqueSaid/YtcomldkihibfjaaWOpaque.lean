/- The walk of the law FnNYCbCrAOpaque. -/
import Derived.Test.YtcomldkihibfjaaOpqM
namespace Go.Proofs.Ytcomldkihibfjaa
open Go.RowKit
set_option linter.unusedVariables false
set_option linter.unusedSimpArgs false

set_option maxRecDepth 100000 in
set_option maxHeartbeats 2000000 in
theorem implOpaque_any (x0 y0 x1 y1 rt ys cs at4 : Int) (A1 A2 A3 A4 : Option Addr) (c1 c2 c3 c4 : Nat) (z1 z2 z3 z4 : List Int) (w : World) (hr1 : Hid (Reads w A1 z1)) (hl1 : Small z1) (hn1 : Hid (A1 = none → c1 = 0)) (hr2 : Hid (Reads w A2 z2)) (hl2 : Small z2) (hn2 : Hid (A2 = none → c2 = 0)) (hr3 : Hid (Reads w A3 z3)) (hl3 : Small z3) (hn3 : Hid (A3 = none → c3 = 0)) (hr4 : Hid (Reads w A4 z4)) (hl4 : Small z4) (hn4 : Hid (A4 = none → c4 = 0)) (hF : Hid (Fits x0 y0 x1 y1 at4 1 z4.length)) (wd ht : Nat) (HW : Hid (x1 - x0 = wd)) (HH : Hid (y1 - y0 = ht)) (res : Bool) (HRS : Hid (allOpq z4 at4 wd ht = res)) :
    Calls Try.prog 24 #[.agg #[.int .i64 x0, .int .i64 y0, .int .i64 x1, .int .i64 y1, .int .i64 rt, .int .i64 ys, .int .i64 cs, .int .i64 at4, .slice A1 z1.length c1, .slice A2 z2.length c2, .slice A3 z3.length c3, .slice A4 z4.length c4]] w fun e w' => e = .returned (.bool res) ∧ Below w.heap.size w w' := by
  have hln : (z4.length : Int) ≤ 140737488351232 := by have := hl4; unfold Small at this; omega
  have aw : Below w.heap.size w (w.alloc (.cells #[.int .i64 x0, .int .i64 y0, .int .i64 x1, .int .i64 y1, .int .i64 rt, .int .i64 ys, .int .i64 cs, .int .i64 at4, .slice A1 z1.length c1, .slice A2 z2.length c2, .slice A3 z3.length c3, .slice A4 z4.length c4] 30)) := (Below.refl _ _).alloc (Nat.le_refl _) _
  have HR1 := Lib.hid (hr1.out.below aw)
  have HR2 := Lib.hid (hr2.out.below aw)
  have HR3 := Lib.hid (hr3.out.below aw)
  have HR4 := Lib.hid (hr4.out.below aw)
  go_enter Try.func24, Try.ntmps24
  go_wp2_with fail
  refine (to_any x0 y0 x1 y1 rt ys cs at4 A1 A2 A3 A4 c1 c2 c3 c4 z1 z2 z3 z4 _ HR1 hl1 hn1 HR2 hl2 hn2 HR3 hl3 hn3 HR4 hl4 hn4).mono ?_
  rintro e w1 ⟨g, B1, B2, B3, B4, e1, e2, e3, e4, rfl, hgb, hg, ho1, ho2, ho3, ho4, hb1⟩
  have hB : Below w.heap.size w w1 := aw.trans (hb1.mono (by simp))
  have HG := Lib.hid hg
  have HO := Lib.hid ho4
  clear hg ho1 ho2 ho3 ho4 hb1 aw
  by_cases hE : Empt x0 y0 x1 y1
  · obtain rfl : res = true := HRS.out.symm.trans (allOpq_empty hE HW.out HH.out)
    have HE := Lib.hid hE
    clear hE
    go_wp2_with fail
    refine (opaqueM_empty g x0 y0 x1 y1 rt ys cs at4 B1 B2 B3 B4 e1 e2 e3 e4 z1 z2 z3 z4 _ HG.out HE).mono ?_
    rintro e w2 ⟨rfl, hb2⟩
    go_wp2
    go_ret
    exact ⟨rfl, hB.trans (hb2.mono hB.size)⟩
  · have HE := Lib.hid hE
    have hp : 0 < z4.length := by
      have hI : Insd x0 y0 x1 y1 x0 y0 := by unfold Empt at hE; unfold Insd; omega
      have := hF.out.at_ (by omega) hI
      omega
    clear hE
    obtain ⟨bb, ms, rfl, _, _, _, hcc, _⟩ := own_block HO.out hp
    go_wp2_with fail
    refine (opaqueM_full g bb x0 y0 x1 y1 rt ys cs at4 B1 B2 B3 none e1 e2 e3 e4 z1 z2 z3 z4 wd ht _ HG.out (Reads.of_own HO.out) hln (by omega) hF HE HW.out HH.out).mono ?_
    rintro e w2 ⟨rfl, hb2⟩
    rw [HRS.out]
    go_wp2
    go_ret
    exact ⟨rfl, hB.trans (hb2.mono hB.size)⟩


set_option maxRecDepth 100000 in
set_option maxHeartbeats 2000000 in
theorem opaque_g0 (x0 y0 x1 y1 rt ys cs at4 : Int) (A1 A2 A3 A4 : Option Addr) (c1 c2 c3 c4 : Nat) (z1 z2 z3 z4 : List Int) (w : World) (hr1 : Hid (Reads w A1 z1)) (hl1 : Small z1) (hn1 : Hid (A1 = none → c1 = 0)) (hr2 : Hid (Reads w A2 z2)) (hl2 : Small z2) (hn2 : Hid (A2 = none → c2 = 0)) (hr3 : Hid (Reads w A3 z3)) (hl3 : Small z3) (hn3 : Hid (A3 = none → c3 = 0)) (hr4 : Hid (Reads w A4 z4)) (hl4 : Small z4) (hn4 : Hid (A4 = none → c4 = 0)) (hb4 : Hid (Bytes z4)) (hF : Hid (¬ FairF x0 y0 x1 y1 ys cs at4)) :
    Calls Try.prog 5 #[.agg #[.int .i64 x0, .int .i64 y0, .int .i64 x1, .int .i64 y1, .int .i64 rt, .int .i64 ys, .int .i64 cs, .int .i64 at4, .slice A1 z1.length c1, .slice A2 z2.length c2, .slice A3 z3.length c3, .slice A4 z4.length c4]] w fun e w' => e = .returned (.bool true) ∧ Below w.heap.size w w' := by
  have hB : Below w.heap.size w (w.alloc (.cells #[.int .i64 x0, .int .i64 y0, .int .i64 x1, .int .i64 y1, .int .i64 rt, .int .i64 ys, .int .i64 cs, .int .i64 at4, .slice A1 z1.length c1, .slice A2 z2.length c2, .slice A3 z3.length c3, .slice A4 z4.length c4] 30)) := (Below.refl _ _).alloc (Nat.le_refl _) _
  have D0 : (w.alloc (.cells #[.int .i64 x0, .int .i64 y0, .int .i64 x1, .int .i64 y1, .int .i64 rt, .int .i64 ys, .int .i64 cs, .int .i64 at4, .slice A1 z1.length c1, .slice A2 z2.length c2, .slice A3 z3.length c3, .slice A4 z4.length c4] 30)).cell? ⟨w.heap.size, 0, none⟩ = some (.int .i64 x0) := by first | (simp; done) | go_simp
  have D1 : (w.alloc (.cells #[.int .i64 x0, .int .i64 y0, .int .i64 x1, .int .i64 y1, .int .i64 rt, .int .i64 ys, .int .i64 cs, .int .i64 at4, .slice A1 z1.length c1, .slice A2 z2.length c2, .slice A3 z3.length c3, .slice A4 z4.length c4] 30)).cell? ⟨w.heap.size, 1, none⟩ = some (.int .i64 y0) := by first | (simp; done) | go_simp
  have D2 : (w.alloc (.cells #[.int .i64 x0, .int .i64 y0, .int .i64 x1, .int .i64 y1, .int .i64 rt, .int .i64 ys, .int .i64 cs, .int .i64 at4, .slice A1 z1.length c1, .slice A2 z2.length c2, .slice A3 z3.length c3, .slice A4 z4.length c4] 30)).cell? ⟨w.heap.size, 2, none⟩ = some (.int .i64 x1) := by first | (simp; done) | go_simp
  have D3 : (w.alloc (.cells #[.int .i64 x0, .int .i64 y0, .int .i64 x1, .int .i64 y1, .int .i64 rt, .int .i64 ys, .int .i64 cs, .int .i64 at4, .slice A1 z1.length c1, .slice A2 z2.length c2, .slice A3 z3.length c3, .slice A4 z4.length c4] 30)).cell? ⟨w.heap.size, 3, none⟩ = some (.int .i64 y1) := by first | (simp; done) | go_simp
  have D4 : (w.alloc (.cells #[.int .i64 x0, .int .i64 y0, .int .i64 x1, .int .i64 y1, .int .i64 rt, .int .i64 ys, .int .i64 cs, .int .i64 at4, .slice A1 z1.length c1, .slice A2 z2.length c2, .slice A3 z3.length c3, .slice A4 z4.length c4] 30)).cell? ⟨w.heap.size, 4, none⟩ = some (.int .i64 rt) := by first | (simp; done) | go_simp
  have D5 : (w.alloc (.cells #[.int .i64 x0, .int .i64 y0, .int .i64 x1, .int .i64 y1, .int .i64 rt, .int .i64 ys, .int .i64 cs, .int .i64 at4, .slice A1 z1.length c1, .slice A2 z2.length c2, .slice A3 z3.length c3, .slice A4 z4.length c4] 30)).cell? ⟨w.heap.size, 5, none⟩ = some (.int .i64 ys) := by first | (simp; done) | go_simp
  have D6 : (w.alloc (.cells #[.int .i64 x0, .int .i64 y0, .int .i64 x1, .int .i64 y1, .int .i64 rt, .int .i64 ys, .int .i64 cs, .int .i64 at4, .slice A1 z1.length c1, .slice A2 z2.length c2, .slice A3 z3.length c3, .slice A4 z4.length c4] 30)).cell? ⟨w.heap.size, 6, none⟩ = some (.int .i64 cs) := by first | (simp; done) | go_simp
  have D7 : (w.alloc (.cells #[.int .i64 x0, .int .i64 y0, .int .i64 x1, .int .i64 y1, .int .i64 rt, .int .i64 ys, .int .i64 cs, .int .i64 at4, .slice A1 z1.length c1, .slice A2 z2.length c2, .slice A3 z3.length c3, .slice A4 z4.length c4] 30)).cell? ⟨w.heap.size, 7, none⟩ = some (.int .i64 at4) := by first | (simp; done) | go_simp
  have D8 : (w.alloc (.cells #[.int .i64 x0, .int .i64 y0, .int .i64 x1, .int .i64 y1, .int .i64 rt, .int .i64 ys, .int .i64 cs, .int .i64 at4, .slice A1 z1.length c1, .slice A2 z2.length c2, .slice A3 z3.length c3, .slice A4 z4.length c4] 30)).cell? ⟨w.heap.size, 8, none⟩ = some (.slice A1 z1.length c1) := by first | (simp; done) | go_simp
  have D9 : (w.alloc (.cells #[.int .i64 x0, .int .i64 y0, .int .i64 x1, .int .i64 y1, .int .i64 rt, .int .i64 ys, .int .i64 cs, .int .i64 at4, .slice A1 z1.length c1, .slice A2 z2.length c2, .slice A3 z3.length c3, .slice A4 z4.length c4] 30)).cell? ⟨w.heap.size, 9, none⟩ = some (.slice A2 z2.length c2) := by first | (simp; done) | go_simp
  have D10 : (w.alloc (.cells #[.int .i64 x0, .int .i64 y0, .int .i64 x1, .int .i64 y1, .int .i64 rt, .int .i64 ys, .int .i64 cs, .int .i64 at4, .slice A1 z1.length c1, .slice A2 z2.length c2, .slice A3 z3.length c3, .slice A4 z4.length c4] 30)).cell? ⟨w.heap.size, 10, none⟩ = some (.slice A3 z3.length c3) := by first | (simp; done) | go_simp
  have D11 : (w.alloc (.cells #[.int .i64 x0, .int .i64 y0, .int .i64 x1, .int .i64 y1, .int .i64 rt, .int .i64 ys, .int .i64 cs, .int .i64 at4, .slice A1 z1.length c1, .slice A2 z2.length c2, .slice A3 z3.length c3, .slice A4 z4.length c4] 30)).cell? ⟨w.heap.size, 11, none⟩ = some (.slice A4 z4.length c4) := by first | (simp; done) | go_simp
  have HR1 := Lib.hid (hr1.out.below hB)
  have HR2 := Lib.hid (hr2.out.below hB)
  have HR3 := Lib.hid (hr3.out.below hB)
  have HR4 := Lib.hid (hr4.out.below hB)
  go_enter Try.func5, Try.ntmps5
  go_wp2_with fail
  generalize w.alloc (.cells #[.int .i64 x0, .int .i64 y0, .int .i64 x1, .int .i64 y1, .int .i64 rt, .int .i64 ys, .int .i64 cs, .int .i64 at4, .slice A1 z1.length c1, .slice A2 z2.length c2, .slice A3 z3.length c3, .slice A4 z4.length c4] 30) = W0 at *
  have P0 : Below W0.heap.size W0 W0.drew := (Below.refl _ _).drew
  have toS : ∀ W' : World, Below W0.heap.size W0 W' → (W'.cell? ⟨w.heap.size, 0, none⟩ = some (.int .i64 x0) ∧ W'.cell? ⟨w.heap.size, 1, none⟩ = some (.int .i64 y0) ∧ W'.cell? ⟨w.heap.size, 2, none⟩ = some (.int .i64 x1) ∧ W'.cell? ⟨w.heap.size, 3, none⟩ = some (.int .i64 y1) ∧ W'.cell? ⟨w.heap.size, 4, none⟩ = some (.int .i64 rt) ∧ W'.cell? ⟨w.heap.size, 5, none⟩ = some (.int .i64 ys) ∧ W'.cell? ⟨w.heap.size, 6, none⟩ = some (.int .i64 cs) ∧ W'.cell? ⟨w.heap.size, 7, none⟩ = some (.int .i64 at4) ∧ W'.cell? ⟨w.heap.size, 8, none⟩ = some (.slice A1 z1.length c1) ∧ W'.cell? ⟨w.heap.size, 9, none⟩ = some (.slice A2 z2.length c2) ∧ W'.cell? ⟨w.heap.size, 10, none⟩ = some (.slice A3 z3.length c3) ∧ W'.cell? ⟨w.heap.size, 11, none⟩ = some (.slice A4 z4.length c4)) := fun W' h => ⟨cell_kept D0 h, cell_kept D1 h, cell_kept D2 h, cell_kept D3 h, cell_kept D4 h, cell_kept D5 h, cell_kept D6 h, cell_kept D7 h, cell_kept D8 h, cell_kept D9 h, cell_kept D10 h, cell_kept D11 h⟩
  have TOS := Lib.hid toS
  clear toS
  have hzN := hB.size
  refine wp_region_held_drew (S := fun w' => w'.cell? ⟨w.heap.size, 0, none⟩ = some (.int .i64 x0) ∧ w'.cell? ⟨w.heap.size, 1, none⟩ = some (.int .i64 y0) ∧ w'.cell? ⟨w.heap.size, 2, none⟩ = some (.int .i64 x1) ∧ w'.cell? ⟨w.heap.size, 3, none⟩ = some (.int .i64 y1) ∧ w'.cell? ⟨w.heap.size, 4, none⟩ = some (.int .i64 rt) ∧ w'.cell? ⟨w.heap.size, 5, none⟩ = some (.int .i64 ys) ∧ w'.cell? ⟨w.heap.size, 6, none⟩ = some (.int .i64 cs) ∧ w'.cell? ⟨w.heap.size, 7, none⟩ = some (.int .i64 at4) ∧ w'.cell? ⟨w.heap.size, 8, none⟩ = some (.slice A1 z1.length c1) ∧ w'.cell? ⟨w.heap.size, 9, none⟩ = some (.slice A2 z2.length c2) ∧ w'.cell? ⟨w.heap.size, 10, none⟩ = some (.slice A3 z3.length c3) ∧ w'.cell? ⟨w.heap.size, 11, none⟩ = some (.slice A4 z4.length c4)) (by kernel_rfl) ?_ (fun hHeld => ?_)
  · (first | (refine TOS.out _ ?_; first | with_reducible exact P1 | with_reducible exact P0))
  refine wpAnyH_take (i := 0) (oi := _) (v := ?v0) rfl (by kernel_rfl) (by kernel_rfl) (by kernel_rfl) (fun _ _ _ h => h) (Or.inl ⟨by rfl, ?hy0⟩) (by assumption) ?rest0
  case hy0 => (intro w hSw; (try dsimp only at hSw); go_simp <;> with_reducible rfl)
  try simp only [Act.put, List.getElem_toArray, List.getElem_cons_succ, List.getElem_cons_zero, List.setIfInBounds_toArray, List.set_cons_zero, List.set_cons_succ]
  refine wpAnyH_ready (rs := [1]) (by kernel_rfl) (by simp) ?_
  refine AllReadyH.cons (o := _) rfl (fun K hK => ?_) AllReadyH.nil
  go_simp
  (go_at_call 15; refine (fairF_any x0 y0 x1 y1 rt ys cs at4 A1 A2 A3 A4 c1 c2 c3 c4 z1 z2 z3 z4 false (by simp [hF.out]) _).mono ?_; rintro e v1' ⟨rfl, hq1⟩; have P1 : Below W0.heap.size W0 v1' := P0.trans (hq1.mono P0.size))
  refine hK.out _ _ ?_ (fun hHeld => ?_)
  · (first | (refine TOS.out _ ?_; first | with_reducible exact P1 | with_reducible exact P0))
  clear hK K
  try simp only [Act.put, List.getElem_toArray, List.getElem_cons_succ, List.getElem_cons_zero, List.setIfInBounds_toArray, List.set_cons_zero, List.set_cons_succ]
  refine wpAnyH_take (i := 2) (oi := _) (v := ?v2) rfl (by kernel_rfl) (by kernel_rfl) (by kernel_rfl) (fun _ _ _ h => h) (Or.inl ⟨by rfl, ?hy2⟩) (by assumption) ?rest2
  case hy2 => (intro w hSw; (try dsimp only at hSw); go_simp <;> with_reducible rfl)
  try simp only [Act.put, List.getElem_toArray, List.getElem_cons_succ, List.getElem_cons_zero, List.setIfInBounds_toArray, List.set_cons_zero, List.set_cons_succ]
  refine wpAnyH_take (i := 3) (oi := _) (v := ?v3) rfl (by kernel_rfl) (by kernel_rfl) (by kernel_rfl) (fun _ _ _ h => h) (Or.inl ⟨by rfl, ?hy3⟩) (by assumption) ?rest3
  case hy3 => (intro w hSw; (try dsimp only at hSw); go_simp <;> with_reducible rfl)
  try simp only [Act.put, List.getElem_toArray, List.getElem_cons_succ, List.getElem_cons_zero, List.setIfInBounds_toArray, List.set_cons_zero, List.set_cons_succ]
  refine wpAnyH_take (i := 4) (oi := _) (v := undef) rfl (by kernel_rfl) (by kernel_rfl) (by kernel_rfl) (fun _ _ _ h => h) (Or.inr ⟨by rfl, rfl⟩) (by assumption) ?_
  try simp only [Act.put, List.getElem_toArray, List.getElem_cons_succ, List.getElem_cons_zero, List.setIfInBounds_toArray, List.set_cons_zero, List.set_cons_succ]
  refine wpAnyH_take (i := 5) (oi := _) (v := undef) rfl (by kernel_rfl) (by kernel_rfl) (by kernel_rfl) (fun _ _ _ h => h) (Or.inr ⟨by rfl, rfl⟩) (by assumption) ?_
  try simp only [Act.put, List.getElem_toArray, List.getElem_cons_succ, List.getElem_cons_zero, List.setIfInBounds_toArray, List.set_cons_zero, List.set_cons_succ]
  refine wpAnyH_take (i := 7) (oi := _) (v := undef) rfl (by kernel_rfl) (by kernel_rfl) (by kernel_rfl) (fun _ _ _ h => h) (Or.inr ⟨by rfl, rfl⟩) (by assumption) ?_
  try simp only [Act.put, List.getElem_toArray, List.getElem_cons_succ, List.getElem_cons_zero, List.setIfInBounds_toArray, List.set_cons_zero, List.set_cons_succ]
  refine wpAnyH_take (i := 8) (oi := _) (v := undef) rfl (by kernel_rfl) (by kernel_rfl) (by kernel_rfl) (fun _ _ _ h => h) (Or.inr ⟨by rfl, rfl⟩) (by assumption) ?_
  try simp only [Act.put, List.getElem_toArray, List.getElem_cons_succ, List.getElem_cons_zero, List.setIfInBounds_toArray, List.set_cons_zero, List.set_cons_succ]
  refine wpAnyH_take (i := 9) (oi := _) (v := undef) rfl (by kernel_rfl) (by kernel_rfl) (by kernel_rfl) (fun _ _ _ h => h) (Or.inr ⟨by rfl, rfl⟩) (by assumption) ?_
  try simp only [Act.put, List.getElem_toArray, List.getElem_cons_succ, List.getElem_cons_zero, List.setIfInBounds_toArray, List.set_cons_zero, List.set_cons_succ]
  refine wpAnyH_take (i := 10) (oi := _) (v := undef) rfl (by kernel_rfl) (by kernel_rfl) (by kernel_rfl) (fun _ _ _ h => h) (Or.inr ⟨by rfl, rfl⟩) (by assumption) ?_
  try simp only [Act.put, List.getElem_toArray, List.getElem_cons_succ, List.getElem_cons_zero, List.setIfInBounds_toArray, List.set_cons_zero, List.set_cons_succ]
  refine wpAnyH_take (i := 11) (oi := _) (v := undef) rfl (by kernel_rfl) (by kernel_rfl) (by kernel_rfl) (fun _ _ _ h => h) (Or.inr ⟨by rfl, rfl⟩) (by assumption) ?_
  try simp only [Act.put, List.getElem_toArray, List.getElem_cons_succ, List.getElem_cons_zero, List.setIfInBounds_toArray, List.set_cons_zero, List.set_cons_succ]
  refine wpAnyH_ready (rs := [6]) (by kernel_rfl) (by simp) ?_
  refine AllReadyH.cons (o := _) rfl (fun K hK => ?_) AllReadyH.nil
  go_simp
  refine hK.out _ _ ?_ (fun hHeld => ?_)
  · (first | (refine TOS.out _ ?_; first | with_reducible exact P1 | with_reducible exact P0))
  clear hK K
  try simp only [Act.put, List.getElem_toArray, List.getElem_cons_succ, List.getElem_cons_zero, List.setIfInBounds_toArray, List.set_cons_zero, List.set_cons_succ]
  refine wpAnyH_ready (rs := [12]) (by kernel_rfl) (by simp) ?_
  refine AllReadyH.cons (o := _) rfl (fun K hK => ?_) AllReadyH.nil
  go_simp
  refine hK.out _ _ ?_ (fun hHeld => ?_)
  · (first | (refine TOS.out _ ?_; first | with_reducible exact P1 | with_reducible exact P0))
  clear hK K
  try simp only [Act.put, List.getElem_toArray, List.getElem_cons_succ, List.getElem_cons_zero, List.setIfInBounds_toArray, List.set_cons_zero, List.set_cons_succ]
  refine wpAnyH_take (i := 13) (oi := _) (v := undef) rfl (by kernel_rfl) (by kernel_rfl) (by kernel_rfl) (fun _ _ _ h => h) (Or.inr ⟨by rfl, rfl⟩) (by assumption) ?_
  try simp only [Act.put, List.getElem_toArray, List.getElem_cons_succ, List.getElem_cons_zero, List.setIfInBounds_toArray, List.set_cons_zero, List.set_cons_succ]
  refine wpAnyH_take (i := 14) (oi := _) (v := ?v14) rfl (by kernel_rfl) (by kernel_rfl) (by kernel_rfl) (fun _ _ _ h => h) (Or.inl ⟨by rfl, ?hy14⟩) (by assumption) ?rest14
  case hy14 => (intro w hSw; (try dsimp only at hSw); go_simp <;> with_reducible rfl)
  try simp only [Act.put, List.getElem_toArray, List.getElem_cons_succ, List.getElem_cons_zero, List.setIfInBounds_toArray, List.set_cons_zero, List.set_cons_succ]
  refine wpAnyH_done (by kernel_rfl) ?_ _
  go_wp2
  go_ret
  exact ⟨by simp, hB.trans (P1.mono hzN)⟩

set_option maxRecDepth 100000 in
set_option maxHeartbeats 2000000 in
theorem opaque_g1 (x0 y0 x1 y1 rt ys cs at4 : Int) (A1 A2 A3 A4 : Option Addr) (c1 c2 c3 c4 : Nat) (z1 z2 z3 z4 : List Int) (w : World) (hr1 : Hid (Reads w A1 z1)) (hl1 : Small z1) (hn1 : Hid (A1 = none → c1 = 0)) (hr2 : Hid (Reads w A2 z2)) (hl2 : Small z2) (hn2 : Hid (A2 = none → c2 = 0)) (hr3 : Hid (Reads w A3 z3)) (hl3 : Small z3) (hn3 : Hid (A3 = none → c3 = 0)) (hr4 : Hid (Reads w A4 z4)) (hl4 : Small z4) (hn4 : Hid (A4 = none → c4 = 0)) (hb4 : Hid (Bytes z4)) (hF : Hid (FairF x0 y0 x1 y1 ys cs at4)) (hP : Hid (¬ Fits x0 y0 x1 y1 at4 1 z4.length)) :
    Calls Try.prog 5 #[.agg #[.int .i64 x0, .int .i64 y0, .int .i64 x1, .int .i64 y1, .int .i64 rt, .int .i64 ys, .int .i64 cs, .int .i64 at4, .slice A1 z1.length c1, .slice A2 z2.length c2, .slice A3 z3.length c3, .slice A4 z4.length c4]] w fun e w' => e = .returned (.bool true) ∧ Below w.heap.size w w' := by
  have hB : Below w.heap.size w (w.alloc (.cells #[.int .i64 x0, .int .i64 y0, .int .i64 x1, .int .i64 y1, .int .i64 rt, .int .i64 ys, .int .i64 cs, .int .i64 at4, .slice A1 z1.length c1, .slice A2 z2.length c2, .slice A3 z3.length c3, .slice A4 z4.length c4] 30)) := (Below.refl _ _).alloc (Nat.le_refl _) _
  have D0 : (w.alloc (.cells #[.int .i64 x0, .int .i64 y0, .int .i64 x1, .int .i64 y1, .int .i64 rt, .int .i64 ys, .int .i64 cs, .int .i64 at4, .slice A1 z1.length c1, .slice A2 z2.length c2, .slice A3 z3.length c3, .slice A4 z4.length c4] 30)).cell? ⟨w.heap.size, 0, none⟩ = some (.int .i64 x0) := by first | (simp; done) | go_simp
  have D1 : (w.alloc (.cells #[.int .i64 x0, .int .i64 y0, .int .i64 x1, .int .i64 y1, .int .i64 rt, .int .i64 ys, .int .i64 cs, .int .i64 at4, .slice A1 z1.length c1, .slice A2 z2.length c2, .slice A3 z3.length c3, .slice A4 z4.length c4] 30)).cell? ⟨w.heap.size, 1, none⟩ = some (.int .i64 y0) := by first | (simp; done) | go_simp
  have D2 : (w.alloc (.cells #[.int .i64 x0, .int .i64 y0, .int .i64 x1, .int .i64 y1, .int .i64 rt, .int .i64 ys, .int .i64 cs, .int .i64 at4, .slice A1 z1.length c1, .slice A2 z2.length c2, .slice A3 z3.length c3, .slice A4 z4.length c4] 30)).cell? ⟨w.heap.size, 2, none⟩ = some (.int .i64 x1) := by first | (simp; done) | go_simp
  have D3 : (w.alloc (.cells #[.int .i64 x0, .int .i64 y0, .int .i64 x1, .int .i64 y1, .int .i64 rt, .int .i64 ys, .int .i64 cs, .int .i64 at4, .slice A1 z1.length c1, .slice A2 z2.length c2, .slice A3 z3.length c3, .slice A4 z4.length c4] 30)).cell? ⟨w.heap.size, 3, none⟩ = some (.int .i64 y1) := by first | (simp; done) | go_simp
  have D4 : (w.alloc (.cells #[.int .i64 x0, .int .i64 y0, .int .i64 x1, .int .i64 y1, .int .i64 rt, .int .i64 ys, .int .i64 cs, .int .i64 at4, .slice A1 z1.length c1, .slice A2 z2.length c2, .slice A3 z3.length c3, .slice A4 z4.length c4] 30)).cell? ⟨w.heap.size, 4, none⟩ = some (.int .i64 rt) := by first | (simp; done) | go_simp
  have D5 : (w.alloc (.cells #[.int .i64 x0, .int .i64 y0, .int .i64 x1, .int .i64 y1, .int .i64 rt, .int .i64 ys, .int .i64 cs, .int .i64 at4, .slice A1 z1.length c1, .slice A2 z2.length c2, .slice A3 z3.length c3, .slice A4 z4.length c4] 30)).cell? ⟨w.heap.size, 5, none⟩ = some (.int .i64 ys) := by first | (simp; done) | go_simp
  have D6 : (w.alloc (.cells #[.int .i64 x0, .int .i64 y0, .int .i64 x1, .int .i64 y1, .int .i64 rt, .int .i64 ys, .int .i64 cs, .int .i64 at4, .slice A1 z1.length c1, .slice A2 z2.length c2, .slice A3 z3.length c3, .slice A4 z4.length c4] 30)).cell? ⟨w.heap.size, 6, none⟩ = some (.int .i64 cs) := by first | (simp; done) | go_simp
  have D7 : (w.alloc (.cells #[.int .i64 x0, .int .i64 y0, .int .i64 x1, .int .i64 y1, .int .i64 rt, .int .i64 ys, .int .i64 cs, .int .i64 at4, .slice A1 z1.length c1, .slice A2 z2.length c2, .slice A3 z3.length c3, .slice A4 z4.length c4] 30)).cell? ⟨w.heap.size, 7, none⟩ = some (.int .i64 at4) := by first | (simp; done) | go_simp
  have D8 : (w.alloc (.cells #[.int .i64 x0, .int .i64 y0, .int .i64 x1, .int .i64 y1, .int .i64 rt, .int .i64 ys, .int .i64 cs, .int .i64 at4, .slice A1 z1.length c1, .slice A2 z2.length c2, .slice A3 z3.length c3, .slice A4 z4.length c4] 30)).cell? ⟨w.heap.size, 8, none⟩ = some (.slice A1 z1.length c1) := by first | (simp; done) | go_simp
  have D9 : (w.alloc (.cells #[.int .i64 x0, .int .i64 y0, .int .i64 x1, .int .i64 y1, .int .i64 rt, .int .i64 ys, .int .i64 cs, .int .i64 at4, .slice A1 z1.length c1, .slice A2 z2.length c2, .slice A3 z3.length c3, .slice A4 z4.length c4] 30)).cell? ⟨w.heap.size, 9, none⟩ = some (.slice A2 z2.length c2) := by first | (simp; done) | go_simp
  have D10 : (w.alloc (.cells #[.int .i64 x0, .int .i64 y0, .int .i64 x1, .int .i64 y1, .int .i64 rt, .int .i64 ys, .int .i64 cs, .int .i64 at4, .slice A1 z1.length c1, .slice A2 z2.length c2, .slice A3 z3.length c3, .slice A4 z4.length c4] 30)).cell? ⟨w.heap.size, 10, none⟩ = some (.slice A3 z3.length c3) := by first | (simp; done) | go_simp
  have D11 : (w.alloc (.cells #[.int .i64 x0, .int .i64 y0, .int .i64 x1, .int .i64 y1, .int .i64 rt, .int .i64 ys, .int .i64 cs, .int .i64 at4, .slice A1 z1.length c1, .slice A2 z2.length c2, .slice A3 z3.length c3, .slice A4 z4.length c4] 30)).cell? ⟨w.heap.size, 11, none⟩ = some (.slice A4 z4.length c4) := by first | (simp; done) | go_simp
  have HR1 := Lib.hid (hr1.out.below hB)
  have HR2 := Lib.hid (hr2.out.below hB)
  have HR3 := Lib.hid (hr3.out.below hB)
  have HR4 := Lib.hid (hr4.out.below hB)
  go_enter Try.func5, Try.ntmps5
  go_wp2_with fail
  generalize w.alloc (.cells #[.int .i64 x0, .int .i64 y0, .int .i64 x1, .int .i64 y1, .int .i64 rt, .int .i64 ys, .int .i64 cs, .int .i64 at4, .slice A1 z1.length c1, .slice A2 z2.length c2, .slice A3 z3.length c3, .slice A4 z4.length c4] 30) = W0 at *
  have P0 : Below W0.heap.size W0 W0.drew := (Below.refl _ _).drew
  have toS : ∀ W' : World, Below W0.heap.size W0 W' → (W'.cell? ⟨w.heap.size, 0, none⟩ = some (.int .i64 x0) ∧ W'.cell? ⟨w.heap.size, 1, none⟩ = some (.int .i64 y0) ∧ W'.cell? ⟨w.heap.size, 2, none⟩ = some (.int .i64 x1) ∧ W'.cell? ⟨w.heap.size, 3, none⟩ = some (.int .i64 y1) ∧ W'.cell? ⟨w.heap.size, 4, none⟩ = some (.int .i64 rt) ∧ W'.cell? ⟨w.heap.size, 5, none⟩ = some (.int .i64 ys) ∧ W'.cell? ⟨w.heap.size, 6, none⟩ = some (.int .i64 cs) ∧ W'.cell? ⟨w.heap.size, 7, none⟩ = some (.int .i64 at4) ∧ W'.cell? ⟨w.heap.size, 8, none⟩ = some (.slice A1 z1.length c1) ∧ W'.cell? ⟨w.heap.size, 9, none⟩ = some (.slice A2 z2.length c2) ∧ W'.cell? ⟨w.heap.size, 10, none⟩ = some (.slice A3 z3.length c3) ∧ W'.cell? ⟨w.heap.size, 11, none⟩ = some (.slice A4 z4.length c4)) := fun W' h => ⟨cell_kept D0 h, cell_kept D1 h, cell_kept D2 h, cell_kept D3 h, cell_kept D4 h, cell_kept D5 h, cell_kept D6 h, cell_kept D7 h, cell_kept D8 h, cell_kept D9 h, cell_kept D10 h, cell_kept D11 h⟩
  have TOS := Lib.hid toS
  clear toS
  have hzN := hB.size
  refine wp_region_held_drew (S := fun w' => w'.cell? ⟨w.heap.size, 0, none⟩ = some (.int .i64 x0) ∧ w'.cell? ⟨w.heap.size, 1, none⟩ = some (.int .i64 y0) ∧ w'.cell? ⟨w.heap.size, 2, none⟩ = some (.int .i64 x1) ∧ w'.cell? ⟨w.heap.size, 3, none⟩ = some (.int .i64 y1) ∧ w'.cell? ⟨w.heap.size, 4, none⟩ = some (.int .i64 rt) ∧ w'.cell? ⟨w.heap.size, 5, none⟩ = some (.int .i64 ys) ∧ w'.cell? ⟨w.heap.size, 6, none⟩ = some (.int .i64 cs) ∧ w'.cell? ⟨w.heap.size, 7, none⟩ = some (.int .i64 at4) ∧ w'.cell? ⟨w.heap.size, 8, none⟩ = some (.slice A1 z1.length c1) ∧ w'.cell? ⟨w.heap.size, 9, none⟩ = some (.slice A2 z2.length c2) ∧ w'.cell? ⟨w.heap.size, 10, none⟩ = some (.slice A3 z3.length c3) ∧ w'.cell? ⟨w.heap.size, 11, none⟩ = some (.slice A4 z4.length c4)) (by kernel_rfl) ?_ (fun hHeld => ?_)
  · (first | (refine TOS.out _ ?_; first | with_reducible exact P3 | with_reducible exact P2 | with_reducible exact P1 | with_reducible exact P0))
  refine wpAnyH_take (i := 0) (oi := _) (v := ?vr2_0) rfl (by kernel_rfl) (by kernel_rfl) (by kernel_rfl) (fun _ _ _ h => h) (Or.inl ⟨by rfl, ?hyr2_0⟩) (by assumption) ?restr2_0
  case hyr2_0 => (intro w hSw; (try dsimp only at hSw); go_simp <;> with_reducible rfl)
  try simp only [Act.put, List.getElem_toArray, List.getElem_cons_succ, List.getElem_cons_zero, List.setIfInBounds_toArray, List.set_cons_zero, List.set_cons_succ]
  refine wpAnyH_ready (rs := [1]) (by kernel_rfl) (by simp) ?_
  refine AllReadyH.cons (o := _) rfl (fun K hK => ?_) AllReadyH.nil
  go_simp
  (go_at_call 15; refine (fairF_any x0 y0 x1 y1 rt ys cs at4 A1 A2 A3 A4 c1 c2 c3 c4 z1 z2 z3 z4 true (by simp [hF.out]) _).mono ?_; rintro e v1' ⟨rfl, hq1⟩; have P1 : Below W0.heap.size W0 v1' := P0.trans (hq1.mono P0.size))
  refine hK.out _ _ ?_ (fun hHeld => ?_)
  · (first | (refine TOS.out _ ?_; first | with_reducible exact P3 | with_reducible exact P2 | with_reducible exact P1 | with_reducible exact P0))
  clear hK K
  try simp only [Act.put, List.getElem_toArray, List.getElem_cons_succ, List.getElem_cons_zero, List.setIfInBounds_toArray, List.set_cons_zero, List.set_cons_succ]
  refine wpAnyH_take (i := 2) (oi := _) (v := ?vr2_2) rfl (by kernel_rfl) (by kernel_rfl) (by kernel_rfl) (fun _ _ _ h => h) (Or.inl ⟨by rfl, ?hyr2_2⟩) (by assumption) ?restr2_2
  case hyr2_2 => (intro w hSw; (try dsimp only at hSw); go_simp <;> with_reducible rfl)
  try simp only [Act.put, List.getElem_toArray, List.getElem_cons_succ, List.getElem_cons_zero, List.setIfInBounds_toArray, List.set_cons_zero, List.set_cons_succ]
  refine wpAnyH_take (i := 3) (oi := _) (v := ?vr2_3) rfl (by kernel_rfl) (by kernel_rfl) (by kernel_rfl) (fun _ _ _ h => h) (Or.inl ⟨by rfl, ?hyr2_3⟩) (by assumption) ?restr2_3
  case hyr2_3 => (intro w hSw; (try dsimp only at hSw); go_simp <;> with_reducible rfl)
  try simp only [Act.put, List.getElem_toArray, List.getElem_cons_succ, List.getElem_cons_zero, List.setIfInBounds_toArray, List.set_cons_zero, List.set_cons_succ]
  refine wpAnyH_take (i := 4) (oi := _) (v := ?vr2_4) rfl (by kernel_rfl) (by kernel_rfl) (by kernel_rfl) (fun _ _ _ h => h) (Or.inl ⟨by rfl, ?hyr2_4⟩) (by assumption) ?restr2_4
  case hyr2_4 => (intro w hSw; (try dsimp only at hSw); go_simp <;> with_reducible rfl)
  try simp only [Act.put, List.getElem_toArray, List.getElem_cons_succ, List.getElem_cons_zero, List.setIfInBounds_toArray, List.set_cons_zero, List.set_cons_succ]
  refine wpAnyH_take (i := 5) (oi := _) (v := ?vr2_5) rfl (by kernel_rfl) (by kernel_rfl) (by kernel_rfl) (fun _ _ _ h => h) (Or.inl ⟨by rfl, ?hyr2_5⟩) (by assumption) ?restr2_5
  case hyr2_5 => (intro w hSw; (try dsimp only at hSw); go_simp <;> with_reducible rfl)
  try simp only [Act.put, List.getElem_toArray, List.getElem_cons_succ, List.getElem_cons_zero, List.setIfInBounds_toArray, List.set_cons_zero, List.set_cons_succ]
  refine wpAnyH_take (i := 7) (oi := _) (v := ?vr2_7) rfl (by kernel_rfl) (by kernel_rfl) (by kernel_rfl) (fun _ _ _ h => h) (Or.inl ⟨by rfl, ?hyr2_7⟩) (by assumption) ?restr2_7
  case hyr2_7 => (intro w hSw; (try dsimp only at hSw); go_simp <;> with_reducible rfl)
  try simp only [Act.put, List.getElem_toArray, List.getElem_cons_succ, List.getElem_cons_zero, List.setIfInBounds_toArray, List.set_cons_zero, List.set_cons_succ]
  refine wpAnyH_take (i := 8) (oi := _) (v := ?vr2_8) rfl (by kernel_rfl) (by kernel_rfl) (by kernel_rfl) (fun _ _ _ h => h) (Or.inl ⟨by rfl, ?hyr2_8⟩) (by assumption) ?restr2_8
  case hyr2_8 => (intro w hSw; (try dsimp only at hSw); go_simp <;> with_reducible rfl)
  try simp only [Act.put, List.getElem_toArray, List.getElem_cons_succ, List.getElem_cons_zero, List.setIfInBounds_toArray, List.set_cons_zero, List.set_cons_succ]
  refine wpAnyH_take (i := 9) (oi := _) (v := ?vr2_9) rfl (by kernel_rfl) (by kernel_rfl) (by kernel_rfl) (fun _ _ _ h => h) (Or.inl ⟨by rfl, ?hyr2_9⟩) (by assumption) ?restr2_9
  case hyr2_9 => (intro w hSw; (try dsimp only at hSw); go_simp <;> with_reducible rfl)
  try simp only [Act.put, List.getElem_toArray, List.getElem_cons_succ, List.getElem_cons_zero, List.setIfInBounds_toArray, List.set_cons_zero, List.set_cons_succ]
  refine wpAnyH_take (i := 10) (oi := _) (v := ?vr2_10) rfl (by kernel_rfl) (by kernel_rfl) (by kernel_rfl) (fun _ _ _ h => h) (Or.inl ⟨by rfl, ?hyr2_10⟩) (by assumption) ?restr2_10
  case hyr2_10 => (intro w hSw; (try dsimp only at hSw); go_simp <;> with_reducible rfl)
  try simp only [Act.put, List.getElem_toArray, List.getElem_cons_succ, List.getElem_cons_zero, List.setIfInBounds_toArray, List.set_cons_zero, List.set_cons_succ]
  refine wpAnyH_take (i := 11) (oi := _) (v := ?vr2_11) rfl (by kernel_rfl) (by kernel_rfl) (by kernel_rfl) (fun _ _ _ h => h) (Or.inl ⟨by rfl, ?hyr2_11⟩) (by assumption) ?restr2_11
  case hyr2_11 => (intro w hSw; (try dsimp only at hSw); go_simp <;> with_reducible rfl)
  try simp only [Act.put, List.getElem_toArray, List.getElem_cons_succ, List.getElem_cons_zero, List.setIfInBounds_toArray, List.set_cons_zero, List.set_cons_succ]
  refine wpAnyH_ready (rs := [6]) (by kernel_rfl) (by simp) ?_
  refine AllReadyH.cons (o := _) rfl (fun K hK => ?_) AllReadyH.nil
  go_simp
  (go_at_call 11; refine (box_any x0 y0 x1 y1 _).mono ?_; rintro e v2' ⟨rfl, hq2⟩; have P2 : Below W0.heap.size W0 v2' := P1.trans (hq2.mono P1.size))
  refine hK.out _ _ ?_ (fun hHeld => ?_)
  · (first | (refine TOS.out _ ?_; first | with_reducible exact P3 | with_reducible exact P2 | with_reducible exact P1 | with_reducible exact P0))
  clear hK K
  try simp only [Act.put, List.getElem_toArray, List.getElem_cons_succ, List.getElem_cons_zero, List.setIfInBounds_toArray, List.set_cons_zero, List.set_cons_succ]
  refine wpAnyH_ready (rs := [12]) (by kernel_rfl) (by simp) ?_
  refine AllReadyH.cons (o := _) rfl (fun K hK => ?_) AllReadyH.nil
  go_simp
  (go_at_call 22; refine (fits_any x0 y0 x1 y1 at4 z4.length false (by simp [hP.out]) _).mono ?_; rintro e v3' ⟨rfl, hq3⟩; have P3 : Below W0.heap.size W0 v3' := P2.trans (hq3.mono P2.size))
  refine hK.out _ _ ?_ (fun hHeld => ?_)
  · (first | (refine TOS.out _ ?_; first | with_reducible exact P3 | with_reducible exact P2 | with_reducible exact P1 | with_reducible exact P0))
  clear hK K
  try simp only [Act.put, List.getElem_toArray, List.getElem_cons_succ, List.getElem_cons_zero, List.setIfInBounds_toArray, List.set_cons_zero, List.set_cons_succ]
  refine wpAnyH_take (i := 13) (oi := _) (v := ?vr2_13) rfl (by kernel_rfl) (by kernel_rfl) (by kernel_rfl) (fun _ _ _ h => h) (Or.inl ⟨by rfl, ?hyr2_13⟩) (by assumption) ?restr2_13
  case hyr2_13 => (intro w hSw; (try dsimp only at hSw); go_simp <;> with_reducible rfl)
  try simp only [Act.put, List.getElem_toArray, List.getElem_cons_succ, List.getElem_cons_zero, List.setIfInBounds_toArray, List.set_cons_zero, List.set_cons_succ]
  refine wpAnyH_take (i := 14) (oi := _) (v := ?vr2_14) rfl (by kernel_rfl) (by kernel_rfl) (by kernel_rfl) (fun _ _ _ h => h) (Or.inl ⟨by rfl, ?hyr2_14⟩) (by assumption) ?restr2_14
  case hyr2_14 => (intro w hSw; (try dsimp only at hSw); go_simp <;> with_reducible rfl)
  try simp only [Act.put, List.getElem_toArray, List.getElem_cons_succ, List.getElem_cons_zero, List.setIfInBounds_toArray, List.set_cons_zero, List.set_cons_succ]
  refine wpAnyH_done (by kernel_rfl) ?_ _
  go_wp2
  go_ret
  exact ⟨by simp, hB.trans (P3.mono hzN)⟩

set_option maxRecDepth 100000 in
set_option maxHeartbeats 6000000 in
theorem opaque_fit (x0 y0 x1 y1 rt ys cs at4 : Int) (A1 A2 A3 A4 : Option Addr) (c1 c2 c3 c4 : Nat) (z1 z2 z3 z4 : List Int) (w : World) (hr1 : Hid (Reads w A1 z1)) (hl1 : Small z1) (hn1 : Hid (A1 = none → c1 = 0)) (hr2 : Hid (Reads w A2 z2)) (hl2 : Small z2) (hn2 : Hid (A2 = none → c2 = 0)) (hr3 : Hid (Reads w A3 z3)) (hl3 : Small z3) (hn3 : Hid (A3 = none → c3 = 0)) (hr4 : Hid (Reads w A4 z4)) (hl4 : Small z4) (hn4 : Hid (A4 = none → c4 = 0)) (hb4 : Hid (Bytes z4)) (hF : Hid (FairF x0 y0 x1 y1 ys cs at4)) (hP : Hid (Fits x0 y0 x1 y1 at4 1 z4.length)) (wd ht : Nat) (HW : Hid (x1 - x0 = wd)) (HH : Hid (y1 - y0 = ht)) :
    Calls Try.prog 5 #[.agg #[.int .i64 x0, .int .i64 y0, .int .i64 x1, .int .i64 y1, .int .i64 rt, .int .i64 ys, .int .i64 cs, .int .i64 at4, .slice A1 z1.length c1, .slice A2 z2.length c2, .slice A3 z3.length c3, .slice A4 z4.length c4]] w fun e w' => e = .returned (.bool true) ∧ Below w.heap.size w w' := by
  obtain ⟨⟨⟨⟨f1, f2⟩, ⟨f3, f4⟩, ⟨f5, f6⟩, ⟨f7, f8⟩⟩, _⟩, _⟩ := id hP.out
  have hx0 : x0 ≤ x1 := by have := HW.out; omega
  have hy0 : y0 ≤ y1 := by have := HH.out; omega
  have hB : Below w.heap.size w (w.alloc (.cells #[.int .i64 x0, .int .i64 y0, .int .i64 x1, .int .i64 y1, .int .i64 rt, .int .i64 ys, .int .i64 cs, .int .i64 at4, .slice A1 z1.length c1, .slice A2 z2.length c2, .slice A3 z3.length c3, .slice A4 z4.length c4] 30)) := (Below.refl _ _).alloc (Nat.le_refl _) _
  have D0 : (w.alloc (.cells #[.int .i64 x0, .int .i64 y0, .int .i64 x1, .int .i64 y1, .int .i64 rt, .int .i64 ys, .int .i64 cs, .int .i64 at4, .slice A1 z1.length c1, .slice A2 z2.length c2, .slice A3 z3.length c3, .slice A4 z4.length c4] 30)).cell? ⟨w.heap.size, 0, none⟩ = some (.int .i64 x0) := by first | (simp; done) | go_simp
  have D1 : (w.alloc (.cells #[.int .i64 x0, .int .i64 y0, .int .i64 x1, .int .i64 y1, .int .i64 rt, .int .i64 ys, .int .i64 cs, .int .i64 at4, .slice A1 z1.length c1, .slice A2 z2.length c2, .slice A3 z3.length c3, .slice A4 z4.length c4] 30)).cell? ⟨w.heap.size, 1, none⟩ = some (.int .i64 y0) := by first | (simp; done) | go_simp
  have D2 : (w.alloc (.cells #[.int .i64 x0, .int .i64 y0, .int .i64 x1, .int .i64 y1, .int .i64 rt, .int .i64 ys, .int .i64 cs, .int .i64 at4, .slice A1 z1.length c1, .slice A2 z2.length c2, .slice A3 z3.length c3, .slice A4 z4.length c4] 30)).cell? ⟨w.heap.size, 2, none⟩ = some (.int .i64 x1) := by first | (simp; done) | go_simp
  have D3 : (w.alloc (.cells #[.int .i64 x0, .int .i64 y0, .int .i64 x1, .int .i64 y1, .int .i64 rt, .int .i64 ys, .int .i64 cs, .int .i64 at4, .slice A1 z1.length c1, .slice A2 z2.length c2, .slice A3 z3.length c3, .slice A4 z4.length c4] 30)).cell? ⟨w.heap.size, 3, none⟩ = some (.int .i64 y1) := by first | (simp; done) | go_simp
  have D4 : (w.alloc (.cells #[.int .i64 x0, .int .i64 y0, .int .i64 x1, .int .i64 y1, .int .i64 rt, .int .i64 ys, .int .i64 cs, .int .i64 at4, .slice A1 z1.length c1, .slice A2 z2.length c2, .slice A3 z3.length c3, .slice A4 z4.length c4] 30)).cell? ⟨w.heap.size, 4, none⟩ = some (.int .i64 rt) := by first | (simp; done) | go_simp
  have D5 : (w.alloc (.cells #[.int .i64 x0, .int .i64 y0, .int .i64 x1, .int .i64 y1, .int .i64 rt, .int .i64 ys, .int .i64 cs, .int .i64 at4, .slice A1 z1.length c1, .slice A2 z2.length c2, .slice A3 z3.length c3, .slice A4 z4.length c4] 30)).cell? ⟨w.heap.size, 5, none⟩ = some (.int .i64 ys) := by first | (simp; done) | go_simp
  have D6 : (w.alloc (.cells #[.int .i64 x0, .int .i64 y0, .int .i64 x1, .int .i64 y1, .int .i64 rt, .int .i64 ys, .int .i64 cs, .int .i64 at4, .slice A1 z1.length c1, .slice A2 z2.length c2, .slice A3 z3.length c3, .slice A4 z4.length c4] 30)).cell? ⟨w.heap.size, 6, none⟩ = some (.int .i64 cs) := by first | (simp; done) | go_simp
  have D7 : (w.alloc (.cells #[.int .i64 x0, .int .i64 y0, .int .i64 x1, .int .i64 y1, .int .i64 rt, .int .i64 ys, .int .i64 cs, .int .i64 at4, .slice A1 z1.length c1, .slice A2 z2.length c2, .slice A3 z3.length c3, .slice A4 z4.length c4] 30)).cell? ⟨w.heap.size, 7, none⟩ = some (.int .i64 at4) := by first | (simp; done) | go_simp
  have D8 : (w.alloc (.cells #[.int .i64 x0, .int .i64 y0, .int .i64 x1, .int .i64 y1, .int .i64 rt, .int .i64 ys, .int .i64 cs, .int .i64 at4, .slice A1 z1.length c1, .slice A2 z2.length c2, .slice A3 z3.length c3, .slice A4 z4.length c4] 30)).cell? ⟨w.heap.size, 8, none⟩ = some (.slice A1 z1.length c1) := by first | (simp; done) | go_simp
  have D9 : (w.alloc (.cells #[.int .i64 x0, .int .i64 y0, .int .i64 x1, .int .i64 y1, .int .i64 rt, .int .i64 ys, .int .i64 cs, .int .i64 at4, .slice A1 z1.length c1, .slice A2 z2.length c2, .slice A3 z3.length c3, .slice A4 z4.length c4] 30)).cell? ⟨w.heap.size, 9, none⟩ = some (.slice A2 z2.length c2) := by first | (simp; done) | go_simp
  have D10 : (w.alloc (.cells #[.int .i64 x0, .int .i64 y0, .int .i64 x1, .int .i64 y1, .int .i64 rt, .int .i64 ys, .int .i64 cs, .int .i64 at4, .slice A1 z1.length c1, .slice A2 z2.length c2, .slice A3 z3.length c3, .slice A4 z4.length c4] 30)).cell? ⟨w.heap.size, 10, none⟩ = some (.slice A3 z3.length c3) := by first | (simp; done) | go_simp
  have D11 : (w.alloc (.cells #[.int .i64 x0, .int .i64 y0, .int .i64 x1, .int .i64 y1, .int .i64 rt, .int .i64 ys, .int .i64 cs, .int .i64 at4, .slice A1 z1.length c1, .slice A2 z2.length c2, .slice A3 z3.length c3, .slice A4 z4.length c4] 30)).cell? ⟨w.heap.size, 11, none⟩ = some (.slice A4 z4.length c4) := by first | (simp; done) | go_simp
  have HR1 := Lib.hid (hr1.out.below hB)
  have HR2 := Lib.hid (hr2.out.below hB)
  have HR3 := Lib.hid (hr3.out.below hB)
  have HR4 := Lib.hid (hr4.out.below hB)
  go_enter Try.func5, Try.ntmps5
  go_wp2_with fail
  generalize w.alloc (.cells #[.int .i64 x0, .int .i64 y0, .int .i64 x1, .int .i64 y1, .int .i64 rt, .int .i64 ys, .int .i64 cs, .int .i64 at4, .slice A1 z1.length c1, .slice A2 z2.length c2, .slice A3 z3.length c3, .slice A4 z4.length c4] 30) = W0 at *
  have P0 : Below W0.heap.size W0 W0.drew := (Below.refl _ _).drew
  have toS : ∀ W' : World, Below W0.heap.size W0 W' → (W'.cell? ⟨w.heap.size, 0, none⟩ = some (.int .i64 x0) ∧ W'.cell? ⟨w.heap.size, 1, none⟩ = some (.int .i64 y0) ∧ W'.cell? ⟨w.heap.size, 2, none⟩ = some (.int .i64 x1) ∧ W'.cell? ⟨w.heap.size, 3, none⟩ = some (.int .i64 y1) ∧ W'.cell? ⟨w.heap.size, 4, none⟩ = some (.int .i64 rt) ∧ W'.cell? ⟨w.heap.size, 5, none⟩ = some (.int .i64 ys) ∧ W'.cell? ⟨w.heap.size, 6, none⟩ = some (.int .i64 cs) ∧ W'.cell? ⟨w.heap.size, 7, none⟩ = some (.int .i64 at4) ∧ W'.cell? ⟨w.heap.size, 8, none⟩ = some (.slice A1 z1.length c1) ∧ W'.cell? ⟨w.heap.size, 9, none⟩ = some (.slice A2 z2.length c2) ∧ W'.cell? ⟨w.heap.size, 10, none⟩ = some (.slice A3 z3.length c3) ∧ W'.cell? ⟨w.heap.size, 11, none⟩ = some (.slice A4 z4.length c4)) := fun W' h => ⟨cell_kept D0 h, cell_kept D1 h, cell_kept D2 h, cell_kept D3 h, cell_kept D4 h, cell_kept D5 h, cell_kept D6 h, cell_kept D7 h, cell_kept D8 h, cell_kept D9 h, cell_kept D10 h, cell_kept D11 h⟩
  have TOS := Lib.hid toS
  clear toS
  have hzN := hB.size
  refine wp_region_held_drew (S := fun w' => w'.cell? ⟨w.heap.size, 0, none⟩ = some (.int .i64 x0) ∧ w'.cell? ⟨w.heap.size, 1, none⟩ = some (.int .i64 y0) ∧ w'.cell? ⟨w.heap.size, 2, none⟩ = some (.int .i64 x1) ∧ w'.cell? ⟨w.heap.size, 3, none⟩ = some (.int .i64 y1) ∧ w'.cell? ⟨w.heap.size, 4, none⟩ = some (.int .i64 rt) ∧ w'.cell? ⟨w.heap.size, 5, none⟩ = some (.int .i64 ys) ∧ w'.cell? ⟨w.heap.size, 6, none⟩ = some (.int .i64 cs) ∧ w'.cell? ⟨w.heap.size, 7, none⟩ = some (.int .i64 at4) ∧ w'.cell? ⟨w.heap.size, 8, none⟩ = some (.slice A1 z1.length c1) ∧ w'.cell? ⟨w.heap.size, 9, none⟩ = some (.slice A2 z2.length c2) ∧ w'.cell? ⟨w.heap.size, 10, none⟩ = some (.slice A3 z3.length c3) ∧ w'.cell? ⟨w.heap.size, 11, none⟩ = some (.slice A4 z4.length c4)) (by kernel_rfl) ?_ (fun hHeld => ?_)
  · (first | (refine TOS.out _ ?_; first | with_reducible exact P3 | with_reducible exact P2 | with_reducible exact P1 | with_reducible exact P0))
  refine wpAnyH_take (i := 0) (oi := _) (v := ?vr3_0) rfl (by kernel_rfl) (by kernel_rfl) (by kernel_rfl) (fun _ _ _ h => h) (Or.inl ⟨by rfl, ?hyr3_0⟩) (by assumption) ?restr3_0
  case hyr3_0 => (intro w hSw; (try dsimp only at hSw); go_simp <;> with_reducible rfl)
  try simp only [Act.put, List.getElem_toArray, List.getElem_cons_succ, List.getElem_cons_zero, List.setIfInBounds_toArray, List.set_cons_zero, List.set_cons_succ]
  refine wpAnyH_ready (rs := [1]) (by kernel_rfl) (by simp) ?_
  refine AllReadyH.cons (o := _) rfl (fun K hK => ?_) AllReadyH.nil
  go_simp
  (go_at_call 15; refine (fairF_any x0 y0 x1 y1 rt ys cs at4 A1 A2 A3 A4 c1 c2 c3 c4 z1 z2 z3 z4 true (by simp [hF.out]) _).mono ?_; rintro e v1' ⟨rfl, hq1⟩; have P1 : Below W0.heap.size W0 v1' := P0.trans (hq1.mono P0.size))
  refine hK.out _ _ ?_ (fun hHeld => ?_)
  · (first | (refine TOS.out _ ?_; first | with_reducible exact P3 | with_reducible exact P2 | with_reducible exact P1 | with_reducible exact P0))
  clear hK K
  try simp only [Act.put, List.getElem_toArray, List.getElem_cons_succ, List.getElem_cons_zero, List.setIfInBounds_toArray, List.set_cons_zero, List.set_cons_succ]
  refine wpAnyH_take (i := 2) (oi := _) (v := ?vr3_2) rfl (by kernel_rfl) (by kernel_rfl) (by kernel_rfl) (fun _ _ _ h => h) (Or.inl ⟨by rfl, ?hyr3_2⟩) (by assumption) ?restr3_2
  case hyr3_2 => (intro w hSw; (try dsimp only at hSw); go_simp <;> with_reducible rfl)
  try simp only [Act.put, List.getElem_toArray, List.getElem_cons_succ, List.getElem_cons_zero, List.setIfInBounds_toArray, List.set_cons_zero, List.set_cons_succ]
  refine wpAnyH_take (i := 3) (oi := _) (v := ?vr3_3) rfl (by kernel_rfl) (by kernel_rfl) (by kernel_rfl) (fun _ _ _ h => h) (Or.inl ⟨by rfl, ?hyr3_3⟩) (by assumption) ?restr3_3
  case hyr3_3 => (intro w hSw; (try dsimp only at hSw); go_simp <;> with_reducible rfl)
  try simp only [Act.put, List.getElem_toArray, List.getElem_cons_succ, List.getElem_cons_zero, List.setIfInBounds_toArray, List.set_cons_zero, List.set_cons_succ]
  refine wpAnyH_take (i := 4) (oi := _) (v := ?vr3_4) rfl (by kernel_rfl) (by kernel_rfl) (by kernel_rfl) (fun _ _ _ h => h) (Or.inl ⟨by rfl, ?hyr3_4⟩) (by assumption) ?restr3_4
  case hyr3_4 => (intro w hSw; (try dsimp only at hSw); go_simp <;> with_reducible rfl)
  try simp only [Act.put, List.getElem_toArray, List.getElem_cons_succ, List.getElem_cons_zero, List.setIfInBounds_toArray, List.set_cons_zero, List.set_cons_succ]
  refine wpAnyH_take (i := 5) (oi := _) (v := ?vr3_5) rfl (by kernel_rfl) (by kernel_rfl) (by kernel_rfl) (fun _ _ _ h => h) (Or.inl ⟨by rfl, ?hyr3_5⟩) (by assumption) ?restr3_5
  case hyr3_5 => (intro w hSw; (try dsimp only at hSw); go_simp <;> with_reducible rfl)
  try simp only [Act.put, List.getElem_toArray, List.getElem_cons_succ, List.getElem_cons_zero, List.setIfInBounds_toArray, List.set_cons_zero, List.set_cons_succ]
  refine wpAnyH_take (i := 7) (oi := _) (v := ?vr3_7) rfl (by kernel_rfl) (by kernel_rfl) (by kernel_rfl) (fun _ _ _ h => h) (Or.inl ⟨by rfl, ?hyr3_7⟩) (by assumption) ?restr3_7
  case hyr3_7 => (intro w hSw; (try dsimp only at hSw); go_simp <;> with_reducible rfl)
  try simp only [Act.put, List.getElem_toArray, List.getElem_cons_succ, List.getElem_cons_zero, List.setIfInBounds_toArray, List.set_cons_zero, List.set_cons_succ]
  refine wpAnyH_take (i := 8) (oi := _) (v := ?vr3_8) rfl (by kernel_rfl) (by kernel_rfl) (by kernel_rfl) (fun _ _ _ h => h) (Or.inl ⟨by rfl, ?hyr3_8⟩) (by assumption) ?restr3_8
  case hyr3_8 => (intro w hSw; (try dsimp only at hSw); go_simp <;> with_reducible rfl)
  try simp only [Act.put, List.getElem_toArray, List.getElem_cons_succ, List.getElem_cons_zero, List.setIfInBounds_toArray, List.set_cons_zero, List.set_cons_succ]
  refine wpAnyH_take (i := 9) (oi := _) (v := ?vr3_9) rfl (by kernel_rfl) (by kernel_rfl) (by kernel_rfl) (fun _ _ _ h => h) (Or.inl ⟨by rfl, ?hyr3_9⟩) (by assumption) ?restr3_9
  case hyr3_9 => (intro w hSw; (try dsimp only at hSw); go_simp <;> with_reducible rfl)
  try simp only [Act.put, List.getElem_toArray, List.getElem_cons_succ, List.getElem_cons_zero, List.setIfInBounds_toArray, List.set_cons_zero, List.set_cons_succ]
  refine wpAnyH_take (i := 10) (oi := _) (v := ?vr3_10) rfl (by kernel_rfl) (by kernel_rfl) (by kernel_rfl) (fun _ _ _ h => h) (Or.inl ⟨by rfl, ?hyr3_10⟩) (by assumption) ?restr3_10
  case hyr3_10 => (intro w hSw; (try dsimp only at hSw); go_simp <;> with_reducible rfl)
  try simp only [Act.put, List.getElem_toArray, List.getElem_cons_succ, List.getElem_cons_zero, List.setIfInBounds_toArray, List.set_cons_zero, List.set_cons_succ]
  refine wpAnyH_take (i := 11) (oi := _) (v := ?vr3_11) rfl (by kernel_rfl) (by kernel_rfl) (by kernel_rfl) (fun _ _ _ h => h) (Or.inl ⟨by rfl, ?hyr3_11⟩) (by assumption) ?restr3_11
  case hyr3_11 => (intro w hSw; (try dsimp only at hSw); go_simp <;> with_reducible rfl)
  try simp only [Act.put, List.getElem_toArray, List.getElem_cons_succ, List.getElem_cons_zero, List.setIfInBounds_toArray, List.set_cons_zero, List.set_cons_succ]
  refine wpAnyH_ready (rs := [6]) (by kernel_rfl) (by simp) ?_
  refine AllReadyH.cons (o := _) rfl (fun K hK => ?_) AllReadyH.nil
  go_simp
  (go_at_call 11; refine (box_any x0 y0 x1 y1 _).mono ?_; rintro e v2' ⟨rfl, hq2⟩; have P2 : Below W0.heap.size W0 v2' := P1.trans (hq2.mono P1.size))
  refine hK.out _ _ ?_ (fun hHeld => ?_)
  · (first | (refine TOS.out _ ?_; first | with_reducible exact P3 | with_reducible exact P2 | with_reducible exact P1 | with_reducible exact P0))
  clear hK K
  try simp only [Act.put, List.getElem_toArray, List.getElem_cons_succ, List.getElem_cons_zero, List.setIfInBounds_toArray, List.set_cons_zero, List.set_cons_succ]
  refine wpAnyH_ready (rs := [12]) (by kernel_rfl) (by simp) ?_
  refine AllReadyH.cons (o := _) rfl (fun K hK => ?_) AllReadyH.nil
  go_simp
  (go_at_call 22; refine (fits_any x0 y0 x1 y1 at4 z4.length true (by simp [hP.out]) _).mono ?_; rintro e v3' ⟨rfl, hq3⟩; have P3 : Below W0.heap.size W0 v3' := P2.trans (hq3.mono P2.size))
  refine hK.out _ _ ?_ (fun hHeld => ?_)
  · (first | (refine TOS.out _ ?_; first | with_reducible exact P3 | with_reducible exact P2 | with_reducible exact P1 | with_reducible exact P0))
  clear hK K
  try simp only [Act.put, List.getElem_toArray, List.getElem_cons_succ, List.getElem_cons_zero, List.setIfInBounds_toArray, List.set_cons_zero, List.set_cons_succ]
  refine wpAnyH_take (i := 13) (oi := _) (v := ?vr3_13) rfl (by kernel_rfl) (by kernel_rfl) (by kernel_rfl) (fun _ _ _ h => h) (Or.inl ⟨by rfl, ?hyr3_13⟩) (by assumption) ?restr3_13
  case hyr3_13 => (intro w hSw; (try dsimp only at hSw); go_simp <;> with_reducible rfl)
  try simp only [Act.put, List.getElem_toArray, List.getElem_cons_succ, List.getElem_cons_zero, List.setIfInBounds_toArray, List.set_cons_zero, List.set_cons_succ]
  refine wpAnyH_take (i := 14) (oi := _) (v := ?vr3_14) rfl (by kernel_rfl) (by kernel_rfl) (by kernel_rfl) (fun _ _ _ h => h) (Or.inl ⟨by rfl, ?hyr3_14⟩) (by assumption) ?restr3_14
  case hyr3_14 => (intro w hSw; (try dsimp only at hSw); go_simp <;> with_reducible rfl)
  try simp only [Act.put, List.getElem_toArray, List.getElem_cons_succ, List.getElem_cons_zero, List.setIfInBounds_toArray, List.set_cons_zero, List.set_cons_succ]
  refine wpAnyH_done (by kernel_rfl) ?_ _
  have HS : Hid (Below w.heap.size w v3' ∧ v3'.cell? ⟨w.heap.size, 0, none⟩ = some (.int .i64 x0) ∧ v3'.cell? ⟨w.heap.size, 1, none⟩ = some (.int .i64 y0) ∧ v3'.cell? ⟨w.heap.size, 2, none⟩ = some (.int .i64 x1) ∧ v3'.cell? ⟨w.heap.size, 3, none⟩ = some (.int .i64 y1) ∧ v3'.cell? ⟨w.heap.size, 4, none⟩ = some (.int .i64 rt) ∧ v3'.cell? ⟨w.heap.size, 5, none⟩ = some (.int .i64 ys) ∧ v3'.cell? ⟨w.heap.size, 6, none⟩ = some (.int .i64 cs) ∧ v3'.cell? ⟨w.heap.size, 7, none⟩ = some (.int .i64 at4) ∧ v3'.cell? ⟨w.heap.size, 8, none⟩ = some (.slice A1 z1.length c1) ∧ v3'.cell? ⟨w.heap.size, 9, none⟩ = some (.slice A2 z2.length c2) ∧ v3'.cell? ⟨w.heap.size, 10, none⟩ = some (.slice A3 z3.length c3) ∧ v3'.cell? ⟨w.heap.size, 11, none⟩ = some (.slice A4 z4.length c4)) := ⟨hB.trans (P3.mono hzN), TOS.out _ P3⟩
  clear TOS D0 D1 D2 D3 D4 D5 D6 D7 D8 D9 D10 D11 P0 P1 P2 P3 hq1 hq2 hq3 HR1 HR2 HR3 HR4 hB hzN
  obtain ⟨hB, D0, D1, D2, D3, D4, D5, D6, D7, D8, D9, D10, D11⟩ := id HS.out
  go_wp2
  go_loopw [3, 4] (fun al y wr => ∃ (i : Nat) (a : Bool) (e : Int), i ≤ ht ∧ al = .bool a ∧ y = .int .i64 e ∧ Hid (e = y0 + i) ∧ Hid (a = allN (rowOpq z4 at4 wd) i) ∧ Hid (Below w.heap.size w wr ∧ wr.cell? ⟨w.heap.size, 0, none⟩ = some (.int .i64 x0) ∧ wr.cell? ⟨w.heap.size, 1, none⟩ = some (.int .i64 y0) ∧ wr.cell? ⟨w.heap.size, 2, none⟩ = some (.int .i64 x1) ∧ wr.cell? ⟨w.heap.size, 3, none⟩ = some (.int .i64 y1) ∧ wr.cell? ⟨w.heap.size, 4, none⟩ = some (.int .i64 rt) ∧ wr.cell? ⟨w.heap.size, 5, none⟩ = some (.int .i64 ys) ∧ wr.cell? ⟨w.heap.size, 6, none⟩ = some (.int .i64 cs) ∧ wr.cell? ⟨w.heap.size, 7, none⟩ = some (.int .i64 at4) ∧ wr.cell? ⟨w.heap.size, 8, none⟩ = some (.slice A1 z1.length c1) ∧ wr.cell? ⟨w.heap.size, 9, none⟩ = some (.slice A2 z2.length c2) ∧ wr.cell? ⟨w.heap.size, 10, none⟩ = some (.slice A3 z3.length c3) ∧ wr.cell? ⟨w.heap.size, 11, none⟩ = some (.slice A4 z4.length c4))) (fun _ y _ => (y1 - intOf y).toNat)
  case atStart => exact ⟨0, true, y0, Nat.zero_le _, rfl, rfl, show Hid _ from (by unfold Hid; omega), show Hid _ from rfl, HS⟩
  case round =>
    obtain ⟨i, a0, e, hi, rfl, rfl, HE, HA, KR⟩ := hrel
    clear HS D0 D1 D2 D3 D4 D5 D6 D7 D8 D9 D10 D11 hB
    obtain ⟨hB, D0, D1, D2, D3, D4, D5, D6, D7, D8, D9, D10, D11⟩ := id KR.out
    obtain ⟨e1, e2⟩ : y0 ≤ e ∧ e ≤ y1 := by have := HE.out; have := HH.out; omega
    by_cases hlt : e < y1
    · go_wp2
      go_loopw [3, 5] (fun al x wr => ∃ (j : Nat) (a : Bool) (u : Int), j ≤ wd ∧ al = .bool a ∧ x = .int .i64 u ∧ Hid (u = x0 + j) ∧ Hid (a = (allN (rowOpq z4 at4 wd) i && allN (opq z4 at4 i) j)) ∧ Hid (Below w.heap.size w wr ∧ wr.cell? ⟨w.heap.size, 0, none⟩ = some (.int .i64 x0) ∧ wr.cell? ⟨w.heap.size, 1, none⟩ = some (.int .i64 y0) ∧ wr.cell? ⟨w.heap.size, 2, none⟩ = some (.int .i64 x1) ∧ wr.cell? ⟨w.heap.size, 3, none⟩ = some (.int .i64 y1) ∧ wr.cell? ⟨w.heap.size, 4, none⟩ = some (.int .i64 rt) ∧ wr.cell? ⟨w.heap.size, 5, none⟩ = some (.int .i64 ys) ∧ wr.cell? ⟨w.heap.size, 6, none⟩ = some (.int .i64 cs) ∧ wr.cell? ⟨w.heap.size, 7, none⟩ = some (.int .i64 at4) ∧ wr.cell? ⟨w.heap.size, 8, none⟩ = some (.slice A1 z1.length c1) ∧ wr.cell? ⟨w.heap.size, 9, none⟩ = some (.slice A2 z2.length c2) ∧ wr.cell? ⟨w.heap.size, 10, none⟩ = some (.slice A3 z3.length c3) ∧ wr.cell? ⟨w.heap.size, 11, none⟩ = some (.slice A4 z4.length c4))) (fun _ x _ => (x1 - intOf x).toNat)
      case atStart => exact ⟨0, a0, x0, Nat.zero_le _, rfl, rfl, show Hid _ from (by unfold Hid; omega), show Hid _ from (by unfold Hid; rw [HA.out, allN, Bool.and_true]), KR⟩
      case round =>
        obtain ⟨j, a, u, hj, rfl, rfl, HU, HP, KR'⟩ := hrel
        clear KR D0 D1 D2 D3 D4 D5 D6 D7 D8 D9 D10 D11 hB
        have KR := KR'
        clear KR'
        obtain ⟨hB, D0, D1, D2, D3, D4, D5, D6, D7, D8, D9, D10, D11⟩ := id KR.out
        obtain ⟨u1', u2'⟩ : x0 ≤ u ∧ u ≤ x1 := by have := HU.out; have := HW.out; omega
        by_cases hjl : u < x1
        · have hI : Hid (Insd x0 y0 x1 y1 u e) := ⟨u1', hjl, e1, hlt⟩
          obtain ⟨b1, b2, b3, b4⟩ : -4398046511104 ≤ e - y0 ∧ e - y0 ≤ 4398046511104 ∧ -4398046511104 ≤ u - x0 ∧ u - x0 ≤ 4398046511104 := near_point hP.out hI.out
          obtain ⟨p1, p2⟩ : -2305843009213693952 ≤ (e - y0) * at4 ∧ (e - y0) * at4 ≤ 2305843009213693952 := (by have := hP.out.prods hI.out; omega)
          obtain ⟨k, hK, hk⟩ := hP.out.place (z := 1) rfl hI.out
          have HK := Lib.hid hK
          have hjw : j < wd := by have := HU.out; have := HW.out; omega
          obtain ⟨b, o, rfl⟩ := hr4.out.addr (by omega)
          have q0 := (hr4.out.below hB).cell (j := k) (by omega)
          have i0 : (0 : Int) ≤ (k : Int) := by omega
          have i1 : (k : Int) < (z4.length : Int) := by omega
          have HQ : Hid (opq z4 at4 i j = decide (z4.getD k 0 = 255)) := by
            unfold Hid opq
            rw [show (i : Int) * at4 + (j : Int) = k from by rw [← hK, show e - y0 = i by have := HE.out; omega, show u - x0 = j by have := HU.out; omega, Int.mul_one], Int.toNat_natCast]
          generalize z4.getD k 0 = z0 at q0 HQ
          clear hK hk
          cases a
          case true =>
            go_wp2_with fail
            have P0 : Below wr.heap.size wr wr.drew := (Below.refl _ _).drew
            have toS : ∀ W' : World, Below wr.heap.size wr W' → (W'.cell? ⟨w.heap.size, 0, none⟩ = some (.int .i64 x0) ∧ W'.cell? ⟨w.heap.size, 1, none⟩ = some (.int .i64 y0) ∧ W'.cell? ⟨w.heap.size, 2, none⟩ = some (.int .i64 x1) ∧ W'.cell? ⟨w.heap.size, 3, none⟩ = some (.int .i64 y1) ∧ W'.cell? ⟨w.heap.size, 4, none⟩ = some (.int .i64 rt) ∧ W'.cell? ⟨w.heap.size, 5, none⟩ = some (.int .i64 ys) ∧ W'.cell? ⟨w.heap.size, 6, none⟩ = some (.int .i64 cs) ∧ W'.cell? ⟨w.heap.size, 7, none⟩ = some (.int .i64 at4) ∧ W'.cell? ⟨w.heap.size, 8, none⟩ = some (.slice A1 z1.length c1) ∧ W'.cell? ⟨w.heap.size, 9, none⟩ = some (.slice A2 z2.length c2) ∧ W'.cell? ⟨w.heap.size, 10, none⟩ = some (.slice A3 z3.length c3) ∧ W'.cell? ⟨w.heap.size, 11, none⟩ = some (.slice (some ⟨b, o, none⟩) z4.length c4) ∧ W'.cell? ⟨b, o + k, none⟩ = some (.int .u8 z0)) := fun W' h => ⟨cell_kept D0 h, cell_kept D1 h, cell_kept D2 h, cell_kept D3 h, cell_kept D4 h, cell_kept D5 h, cell_kept D6 h, cell_kept D7 h, cell_kept D8 h, cell_kept D9 h, cell_kept D10 h, cell_kept D11 h, cell_kept q0 h⟩
            have TOS := Lib.hid toS
            clear toS
            have hzN := hB.size
            refine wp_region_held_drew (S := fun w' => w'.cell? ⟨w.heap.size, 0, none⟩ = some (.int .i64 x0) ∧ w'.cell? ⟨w.heap.size, 1, none⟩ = some (.int .i64 y0) ∧ w'.cell? ⟨w.heap.size, 2, none⟩ = some (.int .i64 x1) ∧ w'.cell? ⟨w.heap.size, 3, none⟩ = some (.int .i64 y1) ∧ w'.cell? ⟨w.heap.size, 4, none⟩ = some (.int .i64 rt) ∧ w'.cell? ⟨w.heap.size, 5, none⟩ = some (.int .i64 ys) ∧ w'.cell? ⟨w.heap.size, 6, none⟩ = some (.int .i64 cs) ∧ w'.cell? ⟨w.heap.size, 7, none⟩ = some (.int .i64 at4) ∧ w'.cell? ⟨w.heap.size, 8, none⟩ = some (.slice A1 z1.length c1) ∧ w'.cell? ⟨w.heap.size, 9, none⟩ = some (.slice A2 z2.length c2) ∧ w'.cell? ⟨w.heap.size, 10, none⟩ = some (.slice A3 z3.length c3) ∧ w'.cell? ⟨w.heap.size, 11, none⟩ = some (.slice (some ⟨b, o, none⟩) z4.length c4) ∧ w'.cell? ⟨b, o + k, none⟩ = some (.int .u8 z0)) (by kernel_rfl) ?_ (fun hHeld => ?_)
            · (first | (refine TOS.out _ ?_; first | with_reducible exact P2 | with_reducible exact P1 | with_reducible exact P0))
            refine wpAnyH_take (i := 0) (oi := _) (v := ?vr4_0) rfl (by kernel_rfl) (by kernel_rfl) (by kernel_rfl) (fun _ _ _ h => h) (Or.inl ⟨by rfl, ?hyr4_0⟩) (by assumption) ?restr4_0
            case hyr4_0 => (intro w hSw; (try dsimp only at hSw); go_simp <;> with_reducible rfl)
            try simp only [Act.put, List.getElem_toArray, List.getElem_cons_succ, List.getElem_cons_zero, List.setIfInBounds_toArray, List.set_cons_zero, List.set_cons_succ]
            refine wpAnyH_take (i := 1) (oi := _) (v := ?vr4_1) rfl (by kernel_rfl) (by kernel_rfl) (by kernel_rfl) (fun _ _ _ h => h) (Or.inl ⟨by rfl, ?hyr4_1⟩) (by assumption) ?restr4_1
            case hyr4_1 => (intro w hSw; (try dsimp only at hSw); go_simp <;> with_reducible rfl)
            try simp only [Act.put, List.getElem_toArray, List.getElem_cons_succ, List.getElem_cons_zero, List.setIfInBounds_toArray, List.set_cons_zero, List.set_cons_succ]
            refine wpAnyH_take (i := 2) (oi := _) (v := ?vr4_2) rfl (by kernel_rfl) (by kernel_rfl) (by kernel_rfl) (fun _ _ _ h => h) (Or.inl ⟨by rfl, ?hyr4_2⟩) (by assumption) ?restr4_2
            case hyr4_2 => (intro w hSw; (try dsimp only at hSw); go_simp <;> with_reducible rfl)
            try simp only [Act.put, List.getElem_toArray, List.getElem_cons_succ, List.getElem_cons_zero, List.setIfInBounds_toArray, List.set_cons_zero, List.set_cons_succ]
            refine wpAnyH_take (i := 3) (oi := _) (v := ?vr4_3) rfl (by kernel_rfl) (by kernel_rfl) (by kernel_rfl) (fun _ _ _ h => h) (Or.inl ⟨by rfl, ?hyr4_3⟩) (by assumption) ?restr4_3
            case hyr4_3 => (intro w hSw; (try dsimp only at hSw); go_simp <;> with_reducible rfl)
            try simp only [Act.put, List.getElem_toArray, List.getElem_cons_succ, List.getElem_cons_zero, List.setIfInBounds_toArray, List.set_cons_zero, List.set_cons_succ]
            refine wpAnyH_take (i := 4) (oi := _) (v := ?vr4_4) rfl (by kernel_rfl) (by kernel_rfl) (by kernel_rfl) (fun _ _ _ h => h) (Or.inl ⟨by rfl, ?hyr4_4⟩) (by assumption) ?restr4_4
            case hyr4_4 => (intro w hSw; (try dsimp only at hSw); go_simp <;> with_reducible rfl)
            try simp only [Act.put, List.getElem_toArray, List.getElem_cons_succ, List.getElem_cons_zero, List.setIfInBounds_toArray, List.set_cons_zero, List.set_cons_succ]
            refine wpAnyH_take (i := 5) (oi := _) (v := ?vr4_5) rfl (by kernel_rfl) (by kernel_rfl) (by kernel_rfl) (fun _ _ _ h => h) (Or.inl ⟨by rfl, ?hyr4_5⟩) (by assumption) ?restr4_5
            case hyr4_5 => (intro w hSw; (try dsimp only at hSw); go_simp <;> with_reducible rfl)
            try simp only [Act.put, List.getElem_toArray, List.getElem_cons_succ, List.getElem_cons_zero, List.setIfInBounds_toArray, List.set_cons_zero, List.set_cons_succ]
            refine wpAnyH_take (i := 7) (oi := _) (v := ?vr4_7) rfl (by kernel_rfl) (by kernel_rfl) (by kernel_rfl) (fun _ _ _ h => h) (Or.inl ⟨by rfl, ?hyr4_7⟩) (by assumption) ?restr4_7
            case hyr4_7 => (intro w hSw; (try dsimp only at hSw); go_simp <;> with_reducible rfl)
            try simp only [Act.put, List.getElem_toArray, List.getElem_cons_succ, List.getElem_cons_zero, List.setIfInBounds_toArray, List.set_cons_zero, List.set_cons_succ]
            refine wpAnyH_take (i := 8) (oi := _) (v := ?vr4_8) rfl (by kernel_rfl) (by kernel_rfl) (by kernel_rfl) (fun _ _ _ h => h) (Or.inl ⟨by rfl, ?hyr4_8⟩) (by assumption) ?restr4_8
            case hyr4_8 => (intro w hSw; (try dsimp only at hSw); go_simp <;> with_reducible rfl)
            try simp only [Act.put, List.getElem_toArray, List.getElem_cons_succ, List.getElem_cons_zero, List.setIfInBounds_toArray, List.set_cons_zero, List.set_cons_succ]
            refine wpAnyH_take (i := 9) (oi := _) (v := ?vr4_9) rfl (by kernel_rfl) (by kernel_rfl) (by kernel_rfl) (fun _ _ _ h => h) (Or.inl ⟨by rfl, ?hyr4_9⟩) (by assumption) ?restr4_9
            case hyr4_9 => (intro w hSw; (try dsimp only at hSw); go_simp <;> with_reducible rfl)
            try simp only [Act.put, List.getElem_toArray, List.getElem_cons_succ, List.getElem_cons_zero, List.setIfInBounds_toArray, List.set_cons_zero, List.set_cons_succ]
            refine wpAnyH_take (i := 10) (oi := _) (v := ?vr4_10) rfl (by kernel_rfl) (by kernel_rfl) (by kernel_rfl) (fun _ _ _ h => h) (Or.inl ⟨by rfl, ?hyr4_10⟩) (by assumption) ?restr4_10
            case hyr4_10 => (intro w hSw; (try dsimp only at hSw); go_simp <;> with_reducible rfl)
            try simp only [Act.put, List.getElem_toArray, List.getElem_cons_succ, List.getElem_cons_zero, List.setIfInBounds_toArray, List.set_cons_zero, List.set_cons_succ]
            refine wpAnyH_ready (rs := [6]) (by kernel_rfl) (by simp) ?_
            refine AllReadyH.cons (o := _) rfl (fun K hK => ?_) AllReadyH.nil
            go_simp
            (go_at_call 11; refine (box_any x0 y0 x1 y1 _).mono ?_; rintro e v1' ⟨rfl, hq1⟩; have P1 : Below wr.heap.size wr v1' := P0.trans (hq1.mono P0.size))
            refine hK.out _ _ ?_ (fun hHeld => ?_)
            · (first | (refine TOS.out _ ?_; first | with_reducible exact P2 | with_reducible exact P1 | with_reducible exact P0))
            clear hK K
            try simp only [Act.put, List.getElem_toArray, List.getElem_cons_succ, List.getElem_cons_zero, List.setIfInBounds_toArray, List.set_cons_zero, List.set_cons_succ]
            refine wpAnyH_ready (rs := [11]) (by kernel_rfl) (by simp) ?_
            refine AllReadyH.cons (o := _) rfl (fun K hK => ?_) AllReadyH.nil
            go_simp
            (go_at_call 23; refine (offs_any x0 y0 x1 y1 at4 _ _ _ b1 b2 b3 b4 p1 p2).mono ?_; rintro e v2' ⟨rfl, hq2⟩; rw [HK.out]; have P2 : Below wr.heap.size wr v2' := P1.trans (hq2.mono P1.size))
            refine hK.out _ _ ?_ (fun hHeld => ?_)
            · (first | (refine TOS.out _ ?_; first | with_reducible exact P2 | with_reducible exact P1 | with_reducible exact P0))
            clear hK K
            try simp only [Act.put, List.getElem_toArray, List.getElem_cons_succ, List.getElem_cons_zero, List.setIfInBounds_toArray, List.set_cons_zero, List.set_cons_succ]
            refine wpAnyH_take (i := 12) (oi := _) (v := ?vr4_12) rfl (by kernel_rfl) (by kernel_rfl) (by kernel_rfl) (fun _ _ _ h => h) (Or.inl ⟨by rfl, ?hyr4_12⟩) (by assumption) ?restr4_12
            case hyr4_12 => (intro w hSw; (try dsimp only at hSw); go_simp <;> with_reducible rfl)
            try simp only [Act.put, List.getElem_toArray, List.getElem_cons_succ, List.getElem_cons_zero, List.setIfInBounds_toArray, List.set_cons_zero, List.set_cons_succ]
            refine wpAnyH_take (i := 13) (oi := _) (v := ?vr4_13) rfl (by kernel_rfl) (by kernel_rfl) (by kernel_rfl) (fun _ _ _ h => h) (Or.inl ⟨by rfl, ?hyr4_13⟩) (by assumption) ?restr4_13
            case hyr4_13 => (intro w hSw; (try dsimp only at hSw); go_simp <;> with_reducible rfl)
            try simp only [Act.put, List.getElem_toArray, List.getElem_cons_succ, List.getElem_cons_zero, List.setIfInBounds_toArray, List.set_cons_zero, List.set_cons_succ]
            refine wpAnyH_take (i := 14) (oi := _) (v := ?vr4_14) rfl (by kernel_rfl) (by kernel_rfl) (by kernel_rfl) (fun _ _ _ h => h) (Or.inl ⟨by rfl, ?hyr4_14⟩) (by assumption) ?restr4_14
            case hyr4_14 => (intro w hSw; (try dsimp only at hSw); go_simp <;> with_reducible rfl)
            try simp only [Act.put, List.getElem_toArray, List.getElem_cons_succ, List.getElem_cons_zero, List.setIfInBounds_toArray, List.set_cons_zero, List.set_cons_succ]
            refine wpAnyH_take (i := 15) (oi := _) (v := ?vr4_15) rfl (by kernel_rfl) (by kernel_rfl) (by kernel_rfl) (fun _ _ _ h => h) (Or.inl ⟨by rfl, ?hyr4_15⟩) (by assumption) ?restr4_15
            case hyr4_15 => (intro w hSw; (try dsimp only at hSw); go_simp <;> with_reducible rfl)
            try simp only [Act.put, List.getElem_toArray, List.getElem_cons_succ, List.getElem_cons_zero, List.setIfInBounds_toArray, List.set_cons_zero, List.set_cons_succ]
            refine wpAnyH_take (i := 16) (oi := _) (v := ?vr4_16) rfl (by kernel_rfl) (by kernel_rfl) (by kernel_rfl) (fun _ _ _ h => h) (Or.inl ⟨by rfl, ?hyr4_16⟩) (by assumption) ?restr4_16
            case hyr4_16 => (intro w hSw; (try dsimp only at hSw); go_simp <;> with_reducible rfl)
            try simp only [Act.put, List.getElem_toArray, List.getElem_cons_succ, List.getElem_cons_zero, List.setIfInBounds_toArray, List.set_cons_zero, List.set_cons_succ]
            refine wpAnyH_done (by kernel_rfl) ?_ _
            have T1 : Hid (Below w.heap.size w v2' ∧ v2'.cell? ⟨w.heap.size, 0, none⟩ = some (.int .i64 x0) ∧ v2'.cell? ⟨w.heap.size, 1, none⟩ = some (.int .i64 y0) ∧ v2'.cell? ⟨w.heap.size, 2, none⟩ = some (.int .i64 x1) ∧ v2'.cell? ⟨w.heap.size, 3, none⟩ = some (.int .i64 y1) ∧ v2'.cell? ⟨w.heap.size, 4, none⟩ = some (.int .i64 rt) ∧ v2'.cell? ⟨w.heap.size, 5, none⟩ = some (.int .i64 ys) ∧ v2'.cell? ⟨w.heap.size, 6, none⟩ = some (.int .i64 cs) ∧ v2'.cell? ⟨w.heap.size, 7, none⟩ = some (.int .i64 at4) ∧ v2'.cell? ⟨w.heap.size, 8, none⟩ = some (.slice A1 z1.length c1) ∧ v2'.cell? ⟨w.heap.size, 9, none⟩ = some (.slice A2 z2.length c2) ∧ v2'.cell? ⟨w.heap.size, 10, none⟩ = some (.slice A3 z3.length c3) ∧ v2'.cell? ⟨w.heap.size, 11, none⟩ = some (.slice (some ⟨b, o, none⟩) z4.length c4)) := by
              obtain ⟨k0, k1, k2, k3, k4, k5, k6, k7, k8, k9, k10, k11, _⟩ := TOS.out _ P2
              exact ⟨hB.trans (P2.mono hzN), k0, k1, k2, k3, k4, k5, k6, k7, k8, k9, k10, k11⟩
            clear TOS D0 D1 D2 D3 D4 D5 D6 D7 D8 D9 D10 D11 P0 P1 P2 hq1 hq2
            by_cases h3 : z0 = 255
            · subst h3
              have HQ : Hid (opq z4 at4 i j = true) := by unfold Hid; rw [HQ.out]; rfl
              go_wp2
              go_roundw
              case rel => exact ⟨j + 1, _, u + 1, by omega, rfl, by go_num, show Hid _ from (by unfold Hid; have := HU.out; omega), show Hid _ from (by unfold Hid; rw [allN, ← Bool.and_assoc, ← HP.out, HQ.out]; first | rfl | simp [h3a]), T1⟩
              case measure => simp [intOf]; omega
            · have HQ : Hid (opq z4 at4 i j = false) := by unfold Hid; rw [HQ.out]; simp [h3]
              have h3a : (z0 == 255) = false := by simpa using h3
              have h3b : (z0 != 255) = true := by simpa using h3
              go_wp2
              go_roundw
              case rel => exact ⟨j + 1, _, u + 1, by omega, rfl, by go_num, show Hid _ from (by unfold Hid; have := HU.out; omega), show Hid _ from (by unfold Hid; rw [allN, ← Bool.and_assoc, ← HP.out, HQ.out]; first | rfl | simp [h3a]), T1⟩
              case measure => simp [intOf]; omega
          case false =>
            go_wp2_with fail
            have P0 : Below wr.heap.size wr wr.drew := (Below.refl _ _).drew
            have toS : ∀ W' : World, Below wr.heap.size wr W' → (W'.cell? ⟨w.heap.size, 0, none⟩ = some (.int .i64 x0) ∧ W'.cell? ⟨w.heap.size, 1, none⟩ = some (.int .i64 y0) ∧ W'.cell? ⟨w.heap.size, 2, none⟩ = some (.int .i64 x1) ∧ W'.cell? ⟨w.heap.size, 3, none⟩ = some (.int .i64 y1) ∧ W'.cell? ⟨w.heap.size, 4, none⟩ = some (.int .i64 rt) ∧ W'.cell? ⟨w.heap.size, 5, none⟩ = some (.int .i64 ys) ∧ W'.cell? ⟨w.heap.size, 6, none⟩ = some (.int .i64 cs) ∧ W'.cell? ⟨w.heap.size, 7, none⟩ = some (.int .i64 at4) ∧ W'.cell? ⟨w.heap.size, 8, none⟩ = some (.slice A1 z1.length c1) ∧ W'.cell? ⟨w.heap.size, 9, none⟩ = some (.slice A2 z2.length c2) ∧ W'.cell? ⟨w.heap.size, 10, none⟩ = some (.slice A3 z3.length c3) ∧ W'.cell? ⟨w.heap.size, 11, none⟩ = some (.slice (some ⟨b, o, none⟩) z4.length c4) ∧ W'.cell? ⟨b, o + k, none⟩ = some (.int .u8 z0)) := fun W' h => ⟨cell_kept D0 h, cell_kept D1 h, cell_kept D2 h, cell_kept D3 h, cell_kept D4 h, cell_kept D5 h, cell_kept D6 h, cell_kept D7 h, cell_kept D8 h, cell_kept D9 h, cell_kept D10 h, cell_kept D11 h, cell_kept q0 h⟩
            have TOS := Lib.hid toS
            clear toS
            have hzN := hB.size
            refine wp_region_held_drew (S := fun w' => w'.cell? ⟨w.heap.size, 0, none⟩ = some (.int .i64 x0) ∧ w'.cell? ⟨w.heap.size, 1, none⟩ = some (.int .i64 y0) ∧ w'.cell? ⟨w.heap.size, 2, none⟩ = some (.int .i64 x1) ∧ w'.cell? ⟨w.heap.size, 3, none⟩ = some (.int .i64 y1) ∧ w'.cell? ⟨w.heap.size, 4, none⟩ = some (.int .i64 rt) ∧ w'.cell? ⟨w.heap.size, 5, none⟩ = some (.int .i64 ys) ∧ w'.cell? ⟨w.heap.size, 6, none⟩ = some (.int .i64 cs) ∧ w'.cell? ⟨w.heap.size, 7, none⟩ = some (.int .i64 at4) ∧ w'.cell? ⟨w.heap.size, 8, none⟩ = some (.slice A1 z1.length c1) ∧ w'.cell? ⟨w.heap.size, 9, none⟩ = some (.slice A2 z2.length c2) ∧ w'.cell? ⟨w.heap.size, 10, none⟩ = some (.slice A3 z3.length c3) ∧ w'.cell? ⟨w.heap.size, 11, none⟩ = some (.slice (some ⟨b, o, none⟩) z4.length c4) ∧ w'.cell? ⟨b, o + k, none⟩ = some (.int .u8 z0)) (by kernel_rfl) ?_ (fun hHeld => ?_)
            · (first | (refine TOS.out _ ?_; first | with_reducible exact P0))
            refine wpAnyH_take (i := 0) (oi := _) (v := ?vr5_0) rfl (by kernel_rfl) (by kernel_rfl) (by kernel_rfl) (fun _ _ _ h => h) (Or.inl ⟨by rfl, ?hyr5_0⟩) (by assumption) ?restr5_0
            case hyr5_0 => (intro w hSw; (try dsimp only at hSw); go_simp <;> with_reducible rfl)
            try simp only [Act.put, List.getElem_toArray, List.getElem_cons_succ, List.getElem_cons_zero, List.setIfInBounds_toArray, List.set_cons_zero, List.set_cons_succ]
            refine wpAnyH_take (i := 1) (oi := _) (v := ?vr5_1) rfl (by kernel_rfl) (by kernel_rfl) (by kernel_rfl) (fun _ _ _ h => h) (Or.inl ⟨by rfl, ?hyr5_1⟩) (by assumption) ?restr5_1
            case hyr5_1 => (intro w hSw; (try dsimp only at hSw); go_simp <;> with_reducible rfl)
            try simp only [Act.put, List.getElem_toArray, List.getElem_cons_succ, List.getElem_cons_zero, List.setIfInBounds_toArray, List.set_cons_zero, List.set_cons_succ]
            refine wpAnyH_take (i := 2) (oi := _) (v := undef) rfl (by kernel_rfl) (by kernel_rfl) (by kernel_rfl) (fun _ _ _ h => h) (Or.inr ⟨by rfl, rfl⟩) (by assumption) ?_
            try simp only [Act.put, List.getElem_toArray, List.getElem_cons_succ, List.getElem_cons_zero, List.setIfInBounds_toArray, List.set_cons_zero, List.set_cons_succ]
            refine wpAnyH_take (i := 3) (oi := _) (v := undef) rfl (by kernel_rfl) (by kernel_rfl) (by kernel_rfl) (fun _ _ _ h => h) (Or.inr ⟨by rfl, rfl⟩) (by assumption) ?_
            try simp only [Act.put, List.getElem_toArray, List.getElem_cons_succ, List.getElem_cons_zero, List.setIfInBounds_toArray, List.set_cons_zero, List.set_cons_succ]
            refine wpAnyH_take (i := 4) (oi := _) (v := undef) rfl (by kernel_rfl) (by kernel_rfl) (by kernel_rfl) (fun _ _ _ h => h) (Or.inr ⟨by rfl, rfl⟩) (by assumption) ?_
            try simp only [Act.put, List.getElem_toArray, List.getElem_cons_succ, List.getElem_cons_zero, List.setIfInBounds_toArray, List.set_cons_zero, List.set_cons_succ]
            refine wpAnyH_take (i := 5) (oi := _) (v := undef) rfl (by kernel_rfl) (by kernel_rfl) (by kernel_rfl) (fun _ _ _ h => h) (Or.inr ⟨by rfl, rfl⟩) (by assumption) ?_
            try simp only [Act.put, List.getElem_toArray, List.getElem_cons_succ, List.getElem_cons_zero, List.setIfInBounds_toArray, List.set_cons_zero, List.set_cons_succ]
            refine wpAnyH_take (i := 7) (oi := _) (v := undef) rfl (by kernel_rfl) (by kernel_rfl) (by kernel_rfl) (fun _ _ _ h => h) (Or.inr ⟨by rfl, rfl⟩) (by assumption) ?_
            try simp only [Act.put, List.getElem_toArray, List.getElem_cons_succ, List.getElem_cons_zero, List.setIfInBounds_toArray, List.set_cons_zero, List.set_cons_succ]
            refine wpAnyH_take (i := 8) (oi := _) (v := undef) rfl (by kernel_rfl) (by kernel_rfl) (by kernel_rfl) (fun _ _ _ h => h) (Or.inr ⟨by rfl, rfl⟩) (by assumption) ?_
            try simp only [Act.put, List.getElem_toArray, List.getElem_cons_succ, List.getElem_cons_zero, List.setIfInBounds_toArray, List.set_cons_zero, List.set_cons_succ]
            refine wpAnyH_take (i := 9) (oi := _) (v := undef) rfl (by kernel_rfl) (by kernel_rfl) (by kernel_rfl) (fun _ _ _ h => h) (Or.inr ⟨by rfl, rfl⟩) (by assumption) ?_
            try simp only [Act.put, List.getElem_toArray, List.getElem_cons_succ, List.getElem_cons_zero, List.setIfInBounds_toArray, List.set_cons_zero, List.set_cons_succ]
            refine wpAnyH_take (i := 10) (oi := _) (v := undef) rfl (by kernel_rfl) (by kernel_rfl) (by kernel_rfl) (fun _ _ _ h => h) (Or.inr ⟨by rfl, rfl⟩) (by assumption) ?_
            try simp only [Act.put, List.getElem_toArray, List.getElem_cons_succ, List.getElem_cons_zero, List.setIfInBounds_toArray, List.set_cons_zero, List.set_cons_succ]
            refine wpAnyH_ready (rs := [6]) (by kernel_rfl) (by simp) ?_
            refine AllReadyH.cons (o := _) rfl (fun K hK => ?_) AllReadyH.nil
            go_simp
            refine hK.out _ _ ?_ (fun hHeld => ?_)
            · (first | (refine TOS.out _ ?_; first | with_reducible exact P0))
            clear hK K
            try simp only [Act.put, List.getElem_toArray, List.getElem_cons_succ, List.getElem_cons_zero, List.setIfInBounds_toArray, List.set_cons_zero, List.set_cons_succ]
            refine wpAnyH_ready (rs := [11]) (by kernel_rfl) (by simp) ?_
            refine AllReadyH.cons (o := _) rfl (fun K hK => ?_) AllReadyH.nil
            go_simp
            refine hK.out _ _ ?_ (fun hHeld => ?_)
            · (first | (refine TOS.out _ ?_; first | with_reducible exact P0))
            clear hK K
            try simp only [Act.put, List.getElem_toArray, List.getElem_cons_succ, List.getElem_cons_zero, List.setIfInBounds_toArray, List.set_cons_zero, List.set_cons_succ]
            refine wpAnyH_take (i := 12) (oi := _) (v := undef) rfl (by kernel_rfl) (by kernel_rfl) (by kernel_rfl) (fun _ _ _ h => h) (Or.inr ⟨by rfl, rfl⟩) (by assumption) ?_
            try simp only [Act.put, List.getElem_toArray, List.getElem_cons_succ, List.getElem_cons_zero, List.setIfInBounds_toArray, List.set_cons_zero, List.set_cons_succ]
            refine wpAnyH_take (i := 13) (oi := _) (v := undef) rfl (by kernel_rfl) (by kernel_rfl) (by kernel_rfl) (fun _ _ _ h => h) (Or.inr ⟨by rfl, rfl⟩) (by assumption) ?_
            try simp only [Act.put, List.getElem_toArray, List.getElem_cons_succ, List.getElem_cons_zero, List.setIfInBounds_toArray, List.set_cons_zero, List.set_cons_succ]
            refine wpAnyH_take (i := 14) (oi := _) (v := undef) rfl (by kernel_rfl) (by kernel_rfl) (by kernel_rfl) (fun _ _ _ h => h) (Or.inr ⟨by rfl, rfl⟩) (by assumption) ?_
            try simp only [Act.put, List.getElem_toArray, List.getElem_cons_succ, List.getElem_cons_zero, List.setIfInBounds_toArray, List.set_cons_zero, List.set_cons_succ]
            refine wpAnyH_take (i := 15) (oi := _) (v := ?vr5_15) rfl (by kernel_rfl) (by kernel_rfl) (by kernel_rfl) (fun _ _ _ h => h) (Or.inl ⟨by rfl, ?hyr5_15⟩) (by assumption) ?restr5_15
            case hyr5_15 => (intro w hSw; (try dsimp only at hSw); go_simp <;> with_reducible rfl)
            try simp only [Act.put, List.getElem_toArray, List.getElem_cons_succ, List.getElem_cons_zero, List.setIfInBounds_toArray, List.set_cons_zero, List.set_cons_succ]
            refine wpAnyH_take (i := 16) (oi := _) (v := ?vr5_16) rfl (by kernel_rfl) (by kernel_rfl) (by kernel_rfl) (fun _ _ _ h => h) (Or.inl ⟨by rfl, ?hyr5_16⟩) (by assumption) ?restr5_16
            case hyr5_16 => (intro w hSw; (try dsimp only at hSw); go_simp <;> with_reducible rfl)
            try simp only [Act.put, List.getElem_toArray, List.getElem_cons_succ, List.getElem_cons_zero, List.setIfInBounds_toArray, List.set_cons_zero, List.set_cons_succ]
            refine wpAnyH_done (by kernel_rfl) ?_ _
            have T1 : Hid (Below w.heap.size w wr.drew ∧ wr.drew.cell? ⟨w.heap.size, 0, none⟩ = some (.int .i64 x0) ∧ wr.drew.cell? ⟨w.heap.size, 1, none⟩ = some (.int .i64 y0) ∧ wr.drew.cell? ⟨w.heap.size, 2, none⟩ = some (.int .i64 x1) ∧ wr.drew.cell? ⟨w.heap.size, 3, none⟩ = some (.int .i64 y1) ∧ wr.drew.cell? ⟨w.heap.size, 4, none⟩ = some (.int .i64 rt) ∧ wr.drew.cell? ⟨w.heap.size, 5, none⟩ = some (.int .i64 ys) ∧ wr.drew.cell? ⟨w.heap.size, 6, none⟩ = some (.int .i64 cs) ∧ wr.drew.cell? ⟨w.heap.size, 7, none⟩ = some (.int .i64 at4) ∧ wr.drew.cell? ⟨w.heap.size, 8, none⟩ = some (.slice A1 z1.length c1) ∧ wr.drew.cell? ⟨w.heap.size, 9, none⟩ = some (.slice A2 z2.length c2) ∧ wr.drew.cell? ⟨w.heap.size, 10, none⟩ = some (.slice A3 z3.length c3) ∧ wr.drew.cell? ⟨w.heap.size, 11, none⟩ = some (.slice (some ⟨b, o, none⟩) z4.length c4)) := by
              obtain ⟨k0, k1, k2, k3, k4, k5, k6, k7, k8, k9, k10, k11, _⟩ := TOS.out _ P0
              exact ⟨hB.trans (P0.mono hzN), k0, k1, k2, k3, k4, k5, k6, k7, k8, k9, k10, k11⟩
            clear TOS D0 D1 D2 D3 D4 D5 D6 D7 D8 D9 D10 D11 P0
            go_wp2
            go_roundw
            case rel => exact ⟨j + 1, _, u + 1, by omega, rfl, by go_num, show Hid _ from (by unfold Hid; have := HU.out; omega), show Hid _ from (by unfold Hid; rw [allN, ← Bool.and_assoc, ← HP.out]; rfl), T1⟩
            case measure => simp [intOf]; omega
        · have HR1 : Hid (a = allN (rowOpq z4 at4 wd) (i + 1)) := by
            unfold Hid; rw [HP.out, allN, rowOpq, show wd = j by have := HU.out; have := HW.out; omega]
          clear HP
          go_wp2
          go_roundw
          case rel => exact ⟨i + 1, a, e + 1, by have := HE.out; have := HH.out; omega, rfl, by go_num, show Hid _ from (by unfold Hid; have := HE.out; omega), HR1, KR⟩
          case measure => simp [intOf]; omega
    · have HX : Hid (allOpq z4 at4 wd ht = a0) := by unfold Hid allOpq; rw [show ht = i by have := HE.out; have := HH.out; omega]; exact HA.out.symm
      clear HA
      go_wp2_with fail
      refine (implOpaque_any x0 y0 x1 y1 rt ys cs at4 A1 A2 A3 A4 c1 c2 c3 c4 z1 z2 z3 z4 _ (hr1.out.below hB) hl1 hn1 (hr2.out.below hB) hl2 hn2 (hr3.out.below hB) hl3 hn3 (hr4.out.below hB) hl4 hn4 hP wd ht HW HH a0 HX).mono ?_
      rintro e w2 ⟨rfl, hb2⟩
      go_wp2
      go_ret
      exact ⟨by simp, hB.trans (hb2.mono hB.size)⟩

theorem walk_opaque (x0 y0 x1 y1 rt ys cs at4 : Int) (A1 A2 A3 A4 : Option Addr) (c1 c2 c3 c4 : Nat) (z1 z2 z3 z4 : List Int) (w : World) (hr1 : Hid (Reads w A1 z1)) (hl1 : Small z1) (hn1 : Hid (A1 = none → c1 = 0)) (hr2 : Hid (Reads w A2 z2)) (hl2 : Small z2) (hn2 : Hid (A2 = none → c2 = 0)) (hr3 : Hid (Reads w A3 z3)) (hl3 : Small z3) (hn3 : Hid (A3 = none → c3 = 0)) (hr4 : Hid (Reads w A4 z4)) (hl4 : Small z4) (hn4 : Hid (A4 = none → c4 = 0)) (hb4 : Hid (Bytes z4)) :
    Calls Try.prog 5 #[.agg #[.int .i64 x0, .int .i64 y0, .int .i64 x1, .int .i64 y1, .int .i64 rt, .int .i64 ys, .int .i64 cs, .int .i64 at4, .slice A1 z1.length c1, .slice A2 z2.length c2, .slice A3 z3.length c3, .slice A4 z4.length c4]] w fun e w' => e = .returned (.bool true) ∧ Below w.heap.size w w' := by
  by_cases hF : FairF x0 y0 x1 y1 ys cs at4
  · by_cases hP : Fits x0 y0 x1 y1 at4 1 z4.length
    · have h1 := hP.1.2.1
      have h2 := hP.1.2.2.1
      exact opaque_fit x0 y0 x1 y1 rt ys cs at4 A1 A2 A3 A4 c1 c2 c3 c4 z1 z2 z3 z4 w hr1 hl1 hn1 hr2 hl2 hn2 hr3 hl3 hn3 hr4 hl4 hn4 hb4 hF hP (x1 - x0).toNat (y1 - y0).toNat (show Hid _ from (by unfold Hid; omega)) (show Hid _ from (by unfold Hid; omega))
    · exact opaque_g1 x0 y0 x1 y1 rt ys cs at4 A1 A2 A3 A4 c1 c2 c3 c4 z1 z2 z3 z4 w hr1 hl1 hn1 hr2 hl2 hn2 hr3 hl3 hn3 hr4 hl4 hn4 hb4 hF hP
  · exact opaque_g0 x0 y0 x1 y1 rt ys cs at4 A1 A2 A3 A4 c1 c2 c3 c4 z1 z2 z3 z4 w hr1 hl1 hn1 hr2 hl2 hn2 hr3 hl3 hn3 hr4 hl4 hn4 hb4 hF

end Go.Proofs.Ytcomldkihibfjaa
