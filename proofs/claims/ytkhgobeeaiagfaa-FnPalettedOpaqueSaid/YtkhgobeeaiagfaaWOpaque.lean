/- The walk of the law FnPalettedOpaque. -/
import Derived.Test.YtkhgobeeaiagfaaOpqQ
namespace Go.Proofs.Ytkhgobeeaiagfaa
open Go.RowKit
set_option linter.unusedVariables false
set_option linter.unusedSimpArgs false

/-- The index of each pixel is one of the palette. -/
def Known (x0 y0 x1 y1 s : Int) (zs : List Int) (n : Nat) : Prop := ∀ x y, Insd x0 y0 x1 y1 x y → zs.getD ((y - y0) * s + (x - x0)).toNat 0 < (n : Int)
theorem Known.pix {x0 y0 x1 y1 s : Int} {zs : List Int} {n wd ht : Nat} (h : Known x0 y0 x1 y1 s zs n) (hy : Bytes zs) (hw : x1 - x0 = wd) (hh : y1 - y0 = ht) : ∀ i j, i < ht → j < wd → pixN zs s i j < n := by
  intro i j hi hj
  have h1 := h (x0 + j) (y0 + i) ⟨by omega, by omega, by omega, by omega⟩
  rw [show y0 + (i : Int) - y0 = i by omega, show x0 + (j : Int) - x0 = j by omega] at h1
  have h2 := hy.get ((i : Int) * s + (j : Int)).toNat
  unfold pixN
  omega

set_option maxRecDepth 100000 in
set_option maxHeartbeats 2000000 in
theorem known_yes (x0 y0 x1 y1 s : Int) (A : Option Addr) (c : Nat) (zs : List Int) (B : Option Addr) (k : Nat) (ps : List (Int × Int × Int × Int)) (w : World) (hr : Hid (Reads w A zs)) (hl : Small zs) (hn : Hid (A = none → c = 0)) (pr : Hid (PReads w B ps)) (hy : Hid (Bytes zs)) (pok : Hid (∀ p ∈ ps, 0 ≤ p.1 ∧ p.1 ≤ 65535 ∧ 0 ≤ p.2.1 ∧ p.2.1 ≤ 65535 ∧ 0 ≤ p.2.2.1 ∧ p.2.2.1 ≤ 65535 ∧ 0 ≤ p.2.2.2 ∧ p.2.2.2 ≤ 65535)) (hF : Hid (Fits x0 y0 x1 y1 s 1 zs.length)) (hkn : Hid (Known x0 y0 x1 y1 s zs ps.length)) :
    Calls Try.prog 24 #[.agg #[.int .i64 x0, .int .i64 y0, .int .i64 x1, .int .i64 y1, .int .i64 s, .slice A zs.length c, .slice B ps.length k]] w fun e w' => e = .returned (.bool true) ∧ Below w.heap.size w w' := by
  obtain ⟨⟨⟨⟨f1, f2⟩, ⟨f3, f4⟩, ⟨f5, f6⟩, ⟨f7, f8⟩⟩, f9, f10, _⟩, _⟩ := id hF.out
  have hB : Below w.heap.size w (w.alloc (.cells #[.int .i64 x0, .int .i64 y0, .int .i64 x1, .int .i64 y1, .int .i64 s, .slice A zs.length c, .slice B ps.length k] 27)) := (Below.refl _ _).alloc (Nat.le_refl _) _
  have D0 : (w.alloc (.cells #[.int .i64 x0, .int .i64 y0, .int .i64 x1, .int .i64 y1, .int .i64 s, .slice A zs.length c, .slice B ps.length k] 27)).cell? ⟨w.heap.size, 0, none⟩ = some (.int .i64 x0) := by first | (simp; done) | go_simp
  have D1 : (w.alloc (.cells #[.int .i64 x0, .int .i64 y0, .int .i64 x1, .int .i64 y1, .int .i64 s, .slice A zs.length c, .slice B ps.length k] 27)).cell? ⟨w.heap.size, 1, none⟩ = some (.int .i64 y0) := by first | (simp; done) | go_simp
  have D2 : (w.alloc (.cells #[.int .i64 x0, .int .i64 y0, .int .i64 x1, .int .i64 y1, .int .i64 s, .slice A zs.length c, .slice B ps.length k] 27)).cell? ⟨w.heap.size, 2, none⟩ = some (.int .i64 x1) := by first | (simp; done) | go_simp
  have D3 : (w.alloc (.cells #[.int .i64 x0, .int .i64 y0, .int .i64 x1, .int .i64 y1, .int .i64 s, .slice A zs.length c, .slice B ps.length k] 27)).cell? ⟨w.heap.size, 3, none⟩ = some (.int .i64 y1) := by first | (simp; done) | go_simp
  have D4 : (w.alloc (.cells #[.int .i64 x0, .int .i64 y0, .int .i64 x1, .int .i64 y1, .int .i64 s, .slice A zs.length c, .slice B ps.length k] 27)).cell? ⟨w.heap.size, 4, none⟩ = some (.int .i64 s) := by first | (simp; done) | go_simp
  have D5 : (w.alloc (.cells #[.int .i64 x0, .int .i64 y0, .int .i64 x1, .int .i64 y1, .int .i64 s, .slice A zs.length c, .slice B ps.length k] 27)).cell? ⟨w.heap.size, 5, none⟩ = some (.slice A zs.length c) := by first | (simp; done) | go_simp
  have D6 : (w.alloc (.cells #[.int .i64 x0, .int .i64 y0, .int .i64 x1, .int .i64 y1, .int .i64 s, .slice A zs.length c, .slice B ps.length k] 27)).cell? ⟨w.heap.size, 6, none⟩ = some (.slice B ps.length k) := by first | (simp; done) | go_simp
  go_enter Try.func24, Try.ntmps24
  go_wp2_with fail
  generalize w.alloc (.cells #[.int .i64 x0, .int .i64 y0, .int .i64 x1, .int .i64 y1, .int .i64 s, .slice A zs.length c, .slice B ps.length k] 27) = W0 at *
  have HS : Hid (Below w.heap.size w W0 ∧ W0.cell? ⟨w.heap.size, 0, none⟩ = some (.int .i64 x0) ∧ W0.cell? ⟨w.heap.size, 1, none⟩ = some (.int .i64 y0) ∧ W0.cell? ⟨w.heap.size, 2, none⟩ = some (.int .i64 x1) ∧ W0.cell? ⟨w.heap.size, 3, none⟩ = some (.int .i64 y1) ∧ W0.cell? ⟨w.heap.size, 4, none⟩ = some (.int .i64 s) ∧ W0.cell? ⟨w.heap.size, 5, none⟩ = some (.slice A zs.length c) ∧ W0.cell? ⟨w.heap.size, 6, none⟩ = some (.slice B ps.length k)) := ⟨hB, D0, D1, D2, D3, D4, D5, D6⟩
  go_wp2
  go_loopw [3] (fun yv wr => ∃ e : Int, yv = .int .i64 e ∧ y0 ≤ e ∧ e ≤ y1 ∧ Hid (Below w.heap.size w wr ∧ wr.cell? ⟨w.heap.size, 0, none⟩ = some (.int .i64 x0) ∧ wr.cell? ⟨w.heap.size, 1, none⟩ = some (.int .i64 y0) ∧ wr.cell? ⟨w.heap.size, 2, none⟩ = some (.int .i64 x1) ∧ wr.cell? ⟨w.heap.size, 3, none⟩ = some (.int .i64 y1) ∧ wr.cell? ⟨w.heap.size, 4, none⟩ = some (.int .i64 s) ∧ wr.cell? ⟨w.heap.size, 5, none⟩ = some (.slice A zs.length c) ∧ wr.cell? ⟨w.heap.size, 6, none⟩ = some (.slice B ps.length k))) (fun yv _ => (y1 - intOf yv).toNat)
  case atStart => exact ⟨y0, rfl, Int.le_refl _, by omega, HS⟩
  case round =>
    obtain ⟨e, rfl, e1, e2, KR⟩ := hrel
    clear HS D0 D1 D2 D3 D4 D5 D6 hB
    obtain ⟨hB, D0, D1, D2, D3, D4, D5, D6⟩ := id KR.out
    by_cases hlt : e < y1
    · go_wp2
      go_loopw [4] (fun xv wr => ∃ u : Int, xv = .int .i64 u ∧ x0 ≤ u ∧ u ≤ x1 ∧ Hid (Below w.heap.size w wr ∧ wr.cell? ⟨w.heap.size, 0, none⟩ = some (.int .i64 x0) ∧ wr.cell? ⟨w.heap.size, 1, none⟩ = some (.int .i64 y0) ∧ wr.cell? ⟨w.heap.size, 2, none⟩ = some (.int .i64 x1) ∧ wr.cell? ⟨w.heap.size, 3, none⟩ = some (.int .i64 y1) ∧ wr.cell? ⟨w.heap.size, 4, none⟩ = some (.int .i64 s) ∧ wr.cell? ⟨w.heap.size, 5, none⟩ = some (.slice A zs.length c) ∧ wr.cell? ⟨w.heap.size, 6, none⟩ = some (.slice B ps.length k))) (fun xv _ => (x1 - intOf xv).toNat)
      case atStart => exact ⟨x0, rfl, Int.le_refl _, by omega, KR⟩
      case round =>
        obtain ⟨u, rfl, u1, u2, KR'⟩ := hrel
        clear KR D0 D1 D2 D3 D4 D5 D6 hB
        have KR := KR'
        clear KR'
        obtain ⟨hB, D0, D1, D2, D3, D4, D5, D6⟩ := id KR.out
        by_cases hjl : u < x1
        · have hI : Insd x0 y0 x1 y1 u e := ⟨u1, hjl, e1, hlt⟩
          obtain ⟨b1, b2, b3, b4⟩ : -4398046511104 ≤ e - y0 ∧ e - y0 ≤ 4398046511104 ∧ -4398046511104 ≤ u - x0 ∧ u - x0 ≤ 4398046511104 := near_point hF.out hI
          obtain ⟨p1, p2⟩ : -2305843009213693952 ≤ (e - y0) * s ∧ (e - y0) * s ≤ 2305843009213693952 := (by have := hF.out.prods hI; omega)
          obtain ⟨m, hK, hk⟩ := hF.out.place (z := 1) rfl hI
          rw [Int.mul_one] at hK
          have HK := Lib.hid hK
          obtain ⟨b, o, rfl⟩ := hr.out.addr (by omega)
          have q0 := (hr.out.below hB).cell (j := m) (by omega)
          have hby := hy.out.get m
          obtain ⟨cx, hcx⟩ : ∃ cx : Nat, zs.getD m 0 = (cx : Int) := ⟨(zs.getD m 0).toNat, by omega⟩
          rw [hcx] at q0 hby
          have i0 : (0 : Int) ≤ (m : Int) := by omega
          have i1 : (m : Int) < (zs.length : Int) := by omega
          have hwc : IntKind.i64.wrap (cx : Int) = (cx : Int) := IntWalk.i64_in _ (by omega)
          have hlt2 : (cx : Int) < (ps.length : Int) := by have h := hkn.out u e hI; rw [hK, Int.toNat_natCast, hcx] at h; exact h
          clear hcx hK hk
          go_wp2_with fail
          have P0 : Below wr.heap.size wr wr.drew := (Below.refl _ _).drew
          have toS : ∀ W' : World, Below wr.heap.size wr W' → (W'.cell? ⟨w.heap.size, 0, none⟩ = some (.int .i64 x0) ∧ W'.cell? ⟨w.heap.size, 1, none⟩ = some (.int .i64 y0) ∧ W'.cell? ⟨w.heap.size, 2, none⟩ = some (.int .i64 x1) ∧ W'.cell? ⟨w.heap.size, 3, none⟩ = some (.int .i64 y1) ∧ W'.cell? ⟨w.heap.size, 4, none⟩ = some (.int .i64 s) ∧ W'.cell? ⟨w.heap.size, 5, none⟩ = some (.slice (some ⟨b, o, none⟩) zs.length c) ∧ W'.cell? ⟨w.heap.size, 6, none⟩ = some (.slice B ps.length k) ∧ W'.cell? ⟨b, o + m, none⟩ = some (.int .u8 cx)) := fun W' h => ⟨cell_kept D0 h, cell_kept D1 h, cell_kept D2 h, cell_kept D3 h, cell_kept D4 h, cell_kept D5 h, cell_kept D6 h, cell_kept q0 h⟩
          have TOS := Lib.hid toS
          clear toS
          have hzN := hB.size
          refine wp_region_held_drew (S := fun w' => w'.cell? ⟨w.heap.size, 0, none⟩ = some (.int .i64 x0) ∧ w'.cell? ⟨w.heap.size, 1, none⟩ = some (.int .i64 y0) ∧ w'.cell? ⟨w.heap.size, 2, none⟩ = some (.int .i64 x1) ∧ w'.cell? ⟨w.heap.size, 3, none⟩ = some (.int .i64 y1) ∧ w'.cell? ⟨w.heap.size, 4, none⟩ = some (.int .i64 s) ∧ w'.cell? ⟨w.heap.size, 5, none⟩ = some (.slice (some ⟨b, o, none⟩) zs.length c) ∧ w'.cell? ⟨w.heap.size, 6, none⟩ = some (.slice B ps.length k) ∧ w'.cell? ⟨b, o + m, none⟩ = some (.int .u8 cx)) (by kernel_rfl) ?_ (fun hHeld => ?_)
          · (first | (refine TOS.out _ ?_; first | with_reducible exact P1 | with_reducible exact P0))
          refine wpAnyH_take (i := 0) (oi := _) (v := ?v0) rfl (by kernel_rfl) (by kernel_rfl) (by kernel_rfl) (fun _ _ _ h => h) (Or.inl ⟨by rfl, ?hy0⟩) (by assumption) ?rest0
          case hy0 => (intro w hSw; (try dsimp only at hSw); go_simp <;> with_reducible rfl)
          try simp only [Act.put, List.getElem_toArray, List.getElem_cons_succ, List.getElem_cons_zero, List.setIfInBounds_toArray, List.set_cons_zero, List.set_cons_succ]
          refine wpAnyH_take (i := 1) (oi := _) (v := ?v1) rfl (by kernel_rfl) (by kernel_rfl) (by kernel_rfl) (fun _ _ _ h => h) (Or.inl ⟨by rfl, ?hy1⟩) (by assumption) ?rest1
          case hy1 => (intro w hSw; (try dsimp only at hSw); go_simp <;> with_reducible rfl)
          try simp only [Act.put, List.getElem_toArray, List.getElem_cons_succ, List.getElem_cons_zero, List.setIfInBounds_toArray, List.set_cons_zero, List.set_cons_succ]
          refine wpAnyH_take (i := 2) (oi := _) (v := ?v2) rfl (by kernel_rfl) (by kernel_rfl) (by kernel_rfl) (fun _ _ _ h => h) (Or.inl ⟨by rfl, ?hy2⟩) (by assumption) ?rest2
          case hy2 => (intro w hSw; (try dsimp only at hSw); go_simp <;> with_reducible rfl)
          try simp only [Act.put, List.getElem_toArray, List.getElem_cons_succ, List.getElem_cons_zero, List.setIfInBounds_toArray, List.set_cons_zero, List.set_cons_succ]
          refine wpAnyH_take (i := 3) (oi := _) (v := ?v3) rfl (by kernel_rfl) (by kernel_rfl) (by kernel_rfl) (fun _ _ _ h => h) (Or.inl ⟨by rfl, ?hy3⟩) (by assumption) ?rest3
          case hy3 => (intro w hSw; (try dsimp only at hSw); go_simp <;> with_reducible rfl)
          try simp only [Act.put, List.getElem_toArray, List.getElem_cons_succ, List.getElem_cons_zero, List.setIfInBounds_toArray, List.set_cons_zero, List.set_cons_succ]
          refine wpAnyH_take (i := 4) (oi := _) (v := ?v4) rfl (by kernel_rfl) (by kernel_rfl) (by kernel_rfl) (fun _ _ _ h => h) (Or.inl ⟨by rfl, ?hy4⟩) (by assumption) ?rest4
          case hy4 => (intro w hSw; (try dsimp only at hSw); go_simp <;> with_reducible rfl)
          try simp only [Act.put, List.getElem_toArray, List.getElem_cons_succ, List.getElem_cons_zero, List.setIfInBounds_toArray, List.set_cons_zero, List.set_cons_succ]
          refine wpAnyH_take (i := 9) (oi := _) (v := ?v9) rfl (by kernel_rfl) (by kernel_rfl) (by kernel_rfl) (fun _ _ _ h => h) (Or.inl ⟨by rfl, ?hy9⟩) (by assumption) ?rest9
          case hy9 => (intro w hSw; (try dsimp only at hSw); go_simp <;> with_reducible rfl)
          try simp only [Act.put, List.getElem_toArray, List.getElem_cons_succ, List.getElem_cons_zero, List.setIfInBounds_toArray, List.set_cons_zero, List.set_cons_succ]
          refine wpAnyH_take (i := 10) (oi := _) (v := ?v10) rfl (by kernel_rfl) (by kernel_rfl) (by kernel_rfl) (fun _ _ _ h => h) (Or.inl ⟨by rfl, ?hy10⟩) (by assumption) ?rest10
          case hy10 => (intro w hSw; (try dsimp only at hSw); go_simp <;> with_reducible rfl)
          try simp only [Act.put, List.getElem_toArray, List.getElem_cons_succ, List.getElem_cons_zero, List.setIfInBounds_toArray, List.set_cons_zero, List.set_cons_succ]
          refine wpAnyH_take (i := 11) (oi := _) (v := ?v11) rfl (by kernel_rfl) (by kernel_rfl) (by kernel_rfl) (fun _ _ _ h => h) (Or.inl ⟨by rfl, ?hy11⟩) (by assumption) ?rest11
          case hy11 => (intro w hSw; (try dsimp only at hSw); go_simp <;> with_reducible rfl)
          try simp only [Act.put, List.getElem_toArray, List.getElem_cons_succ, List.getElem_cons_zero, List.setIfInBounds_toArray, List.set_cons_zero, List.set_cons_succ]
          refine wpAnyH_ready (rs := [5]) (by kernel_rfl) (by simp) ?_
          refine AllReadyH.cons (o := _) rfl (fun K hK => ?_) AllReadyH.nil
          go_simp
          (go_at_call 18; refine (atK_any x0 y0 x1 y1 s _ c zs B k ps u e _ b1 b2 b3 b4 p1 p2).mono ?_; rintro e v1' ⟨rfl, hq1⟩; rw [HK.out]; have P1 : Below wr.heap.size wr v1' := P0.trans (hq1.mono P0.size))
          refine hK.out _ _ ?_ (fun hHeld => ?_)
          · (first | (refine TOS.out _ ?_; first | with_reducible exact P1 | with_reducible exact P0))
          clear hK K
          try simp only [Act.put, List.getElem_toArray, List.getElem_cons_succ, List.getElem_cons_zero, List.setIfInBounds_toArray, List.set_cons_zero, List.set_cons_succ]
          refine wpAnyH_take (i := 6) (oi := _) (v := ?v6) rfl (by kernel_rfl) (by kernel_rfl) (by kernel_rfl) (fun _ _ _ h => h) (Or.inl ⟨by rfl, ?hy6⟩) (by assumption) ?rest6
          case hy6 => (intro w hSw; (try dsimp only at hSw); go_simp <;> with_reducible rfl)
          try simp only [Act.put, List.getElem_toArray, List.getElem_cons_succ, List.getElem_cons_zero, List.setIfInBounds_toArray, List.set_cons_zero, List.set_cons_succ]
          refine wpAnyH_take (i := 7) (oi := _) (v := ?v7) rfl (by kernel_rfl) (by kernel_rfl) (by kernel_rfl) (fun _ _ _ h => h) (Or.inl ⟨by rfl, ?hy7⟩) (by assumption) ?rest7
          case hy7 => (intro w hSw; (try dsimp only at hSw); go_simp <;> with_reducible rfl)
          try simp only [Act.put, List.getElem_toArray, List.getElem_cons_succ, List.getElem_cons_zero, List.setIfInBounds_toArray, List.set_cons_zero, List.set_cons_succ]
          refine wpAnyH_take (i := 8) (oi := _) (v := ?v8) rfl (by kernel_rfl) (by kernel_rfl) (by kernel_rfl) (fun _ _ _ h => h) (Or.inl ⟨by rfl, ?hy8⟩) (by assumption) ?rest8
          case hy8 => (intro w hSw; (try dsimp only at hSw); go_simp <;> with_reducible rfl)
          try simp only [Act.put, List.getElem_toArray, List.getElem_cons_succ, List.getElem_cons_zero, List.setIfInBounds_toArray, List.set_cons_zero, List.set_cons_succ]
          refine wpAnyH_take (i := 12) (oi := _) (v := ?v12) rfl (by kernel_rfl) (by kernel_rfl) (by kernel_rfl) (fun _ _ _ h => h) (Or.inl ⟨by rfl, ?hy12⟩) (by assumption) ?rest12
          case hy12 => (intro w hSw; (try dsimp only at hSw); go_simp <;> with_reducible rfl)
          try simp only [Act.put, List.getElem_toArray, List.getElem_cons_succ, List.getElem_cons_zero, List.setIfInBounds_toArray, List.set_cons_zero, List.set_cons_succ]
          refine wpAnyH_done (by kernel_rfl) ?_ _
          have KR2 : Hid (Below w.heap.size w v1' ∧ v1'.cell? ⟨w.heap.size, 0, none⟩ = some (.int .i64 x0) ∧ v1'.cell? ⟨w.heap.size, 1, none⟩ = some (.int .i64 y0) ∧ v1'.cell? ⟨w.heap.size, 2, none⟩ = some (.int .i64 x1) ∧ v1'.cell? ⟨w.heap.size, 3, none⟩ = some (.int .i64 y1) ∧ v1'.cell? ⟨w.heap.size, 4, none⟩ = some (.int .i64 s) ∧ v1'.cell? ⟨w.heap.size, 5, none⟩ = some (.slice (some ⟨b, o, none⟩) zs.length c) ∧ v1'.cell? ⟨w.heap.size, 6, none⟩ = some (.slice B ps.length k)) := by
            obtain ⟨k0, k1, k2, k3, k4, k5, k6, _⟩ := TOS.out _ P1
            exact ⟨hB.trans (P1.mono hzN), k0, k1, k2, k3, k4, k5, k6⟩
          clear TOS hHeld P0 P1 hq1 KR hB D0 D1 D2 D3 D4 D5 D6
          obtain ⟨hB, D0, D1, D2, D3, D4, D5, D6⟩ := id KR2.out
          have hge : ¬ (cx : Int) ≥ (ps.length : Int) := by omega
          have hge2 : ¬ (ps.length : Int) ≤ (cx : Int) := by omega
          go_wp2
          go_roundw
          case rel => exact ⟨u + 1, by go_num, by omega, by omega, KR2⟩
          case measure => simp [intOf]; omega
        · go_wp2
          go_roundw
          case rel => exact ⟨e + 1, by go_num, by omega, by omega, KR⟩
          case measure => simp [intOf]; omega
    · go_wp2
      go_ret
      exact ⟨by simp, hB⟩

set_option maxRecDepth 100000 in
set_option maxHeartbeats 2000000 in
theorem known_no (x0 y0 x1 y1 s : Int) (A : Option Addr) (c : Nat) (zs : List Int) (B : Option Addr) (k : Nat) (ps : List (Int × Int × Int × Int)) (w : World) (hr : Hid (Reads w A zs)) (hl : Small zs) (hn : Hid (A = none → c = 0)) (pr : Hid (PReads w B ps)) (hy : Hid (Bytes zs)) (pok : Hid (∀ p ∈ ps, 0 ≤ p.1 ∧ p.1 ≤ 65535 ∧ 0 ≤ p.2.1 ∧ p.2.1 ≤ 65535 ∧ 0 ≤ p.2.2.1 ∧ p.2.2.1 ≤ 65535 ∧ 0 ≤ p.2.2.2 ∧ p.2.2.2 ≤ 65535)) (hF : Hid (Fits x0 y0 x1 y1 s 1 zs.length)) (hkn : Hid (¬ Known x0 y0 x1 y1 s zs ps.length)) :
    Calls Try.prog 24 #[.agg #[.int .i64 x0, .int .i64 y0, .int .i64 x1, .int .i64 y1, .int .i64 s, .slice A zs.length c, .slice B ps.length k]] w fun e w' => e = .returned (.bool false) ∧ Below w.heap.size w w' := by
  obtain ⟨⟨⟨⟨f1, f2⟩, ⟨f3, f4⟩, ⟨f5, f6⟩, ⟨f7, f8⟩⟩, f9, f10, _⟩, _⟩ := id hF.out
  have hB : Below w.heap.size w (w.alloc (.cells #[.int .i64 x0, .int .i64 y0, .int .i64 x1, .int .i64 y1, .int .i64 s, .slice A zs.length c, .slice B ps.length k] 27)) := (Below.refl _ _).alloc (Nat.le_refl _) _
  have D0 : (w.alloc (.cells #[.int .i64 x0, .int .i64 y0, .int .i64 x1, .int .i64 y1, .int .i64 s, .slice A zs.length c, .slice B ps.length k] 27)).cell? ⟨w.heap.size, 0, none⟩ = some (.int .i64 x0) := by first | (simp; done) | go_simp
  have D1 : (w.alloc (.cells #[.int .i64 x0, .int .i64 y0, .int .i64 x1, .int .i64 y1, .int .i64 s, .slice A zs.length c, .slice B ps.length k] 27)).cell? ⟨w.heap.size, 1, none⟩ = some (.int .i64 y0) := by first | (simp; done) | go_simp
  have D2 : (w.alloc (.cells #[.int .i64 x0, .int .i64 y0, .int .i64 x1, .int .i64 y1, .int .i64 s, .slice A zs.length c, .slice B ps.length k] 27)).cell? ⟨w.heap.size, 2, none⟩ = some (.int .i64 x1) := by first | (simp; done) | go_simp
  have D3 : (w.alloc (.cells #[.int .i64 x0, .int .i64 y0, .int .i64 x1, .int .i64 y1, .int .i64 s, .slice A zs.length c, .slice B ps.length k] 27)).cell? ⟨w.heap.size, 3, none⟩ = some (.int .i64 y1) := by first | (simp; done) | go_simp
  have D4 : (w.alloc (.cells #[.int .i64 x0, .int .i64 y0, .int .i64 x1, .int .i64 y1, .int .i64 s, .slice A zs.length c, .slice B ps.length k] 27)).cell? ⟨w.heap.size, 4, none⟩ = some (.int .i64 s) := by first | (simp; done) | go_simp
  have D5 : (w.alloc (.cells #[.int .i64 x0, .int .i64 y0, .int .i64 x1, .int .i64 y1, .int .i64 s, .slice A zs.length c, .slice B ps.length k] 27)).cell? ⟨w.heap.size, 5, none⟩ = some (.slice A zs.length c) := by first | (simp; done) | go_simp
  have D6 : (w.alloc (.cells #[.int .i64 x0, .int .i64 y0, .int .i64 x1, .int .i64 y1, .int .i64 s, .slice A zs.length c, .slice B ps.length k] 27)).cell? ⟨w.heap.size, 6, none⟩ = some (.slice B ps.length k) := by first | (simp; done) | go_simp
  go_enter Try.func24, Try.ntmps24
  go_wp2_with fail
  generalize w.alloc (.cells #[.int .i64 x0, .int .i64 y0, .int .i64 x1, .int .i64 y1, .int .i64 s, .slice A zs.length c, .slice B ps.length k] 27) = W0 at *
  have HS : Hid (Below w.heap.size w W0 ∧ W0.cell? ⟨w.heap.size, 0, none⟩ = some (.int .i64 x0) ∧ W0.cell? ⟨w.heap.size, 1, none⟩ = some (.int .i64 y0) ∧ W0.cell? ⟨w.heap.size, 2, none⟩ = some (.int .i64 x1) ∧ W0.cell? ⟨w.heap.size, 3, none⟩ = some (.int .i64 y1) ∧ W0.cell? ⟨w.heap.size, 4, none⟩ = some (.int .i64 s) ∧ W0.cell? ⟨w.heap.size, 5, none⟩ = some (.slice A zs.length c) ∧ W0.cell? ⟨w.heap.size, 6, none⟩ = some (.slice B ps.length k)) := ⟨hB, D0, D1, D2, D3, D4, D5, D6⟩
  go_wp2
  go_loopw [3] (fun yv wr => ∃ e : Int, yv = .int .i64 e ∧ y0 ≤ e ∧ e ≤ y1 ∧ Hid (Below w.heap.size w wr ∧ wr.cell? ⟨w.heap.size, 0, none⟩ = some (.int .i64 x0) ∧ wr.cell? ⟨w.heap.size, 1, none⟩ = some (.int .i64 y0) ∧ wr.cell? ⟨w.heap.size, 2, none⟩ = some (.int .i64 x1) ∧ wr.cell? ⟨w.heap.size, 3, none⟩ = some (.int .i64 y1) ∧ wr.cell? ⟨w.heap.size, 4, none⟩ = some (.int .i64 s) ∧ wr.cell? ⟨w.heap.size, 5, none⟩ = some (.slice A zs.length c) ∧ wr.cell? ⟨w.heap.size, 6, none⟩ = some (.slice B ps.length k)) ∧ Hid (∀ x y, Insd x0 y0 x1 e x y → zs.getD ((y - y0) * s + (x - x0)).toNat 0 < (ps.length : Int))) (fun yv _ => (y1 - intOf yv).toNat)
  case atStart => exact ⟨y0, rfl, Int.le_refl _, by omega, HS, show Hid _ from fun x y h => (by obtain ⟨_, _, _, _⟩ := h; omega)⟩
  case round =>
    obtain ⟨e, rfl, e1, e2, KR, HD⟩ := hrel
    clear HS D0 D1 D2 D3 D4 D5 D6 hB
    obtain ⟨hB, D0, D1, D2, D3, D4, D5, D6⟩ := id KR.out
    by_cases hlt : e < y1
    · go_wp2
      go_loopw [4] (fun xv wr => ∃ u : Int, xv = .int .i64 u ∧ x0 ≤ u ∧ u ≤ x1 ∧ Hid (Below w.heap.size w wr ∧ wr.cell? ⟨w.heap.size, 0, none⟩ = some (.int .i64 x0) ∧ wr.cell? ⟨w.heap.size, 1, none⟩ = some (.int .i64 y0) ∧ wr.cell? ⟨w.heap.size, 2, none⟩ = some (.int .i64 x1) ∧ wr.cell? ⟨w.heap.size, 3, none⟩ = some (.int .i64 y1) ∧ wr.cell? ⟨w.heap.size, 4, none⟩ = some (.int .i64 s) ∧ wr.cell? ⟨w.heap.size, 5, none⟩ = some (.slice A zs.length c) ∧ wr.cell? ⟨w.heap.size, 6, none⟩ = some (.slice B ps.length k)) ∧ Hid (∀ x y, (Insd x0 y0 x1 e x y ∨ Insd x0 e u (e + 1) x y) → zs.getD ((y - y0) * s + (x - x0)).toNat 0 < (ps.length : Int))) (fun xv _ => (x1 - intOf xv).toNat)
      case atStart => exact ⟨x0, rfl, Int.le_refl _, by omega, KR, show Hid _ from fun x y h => (by rcases h with h | ⟨_, _, _, _⟩; exact HD.out x y h; omega)⟩
      case round =>
        obtain ⟨u, rfl, u1, u2, KR', HU⟩ := hrel
        clear KR D0 D1 D2 D3 D4 D5 D6 hB
        have KR := KR'
        clear KR'
        obtain ⟨hB, D0, D1, D2, D3, D4, D5, D6⟩ := id KR.out
        by_cases hjl : u < x1
        · have hI : Insd x0 y0 x1 y1 u e := ⟨u1, hjl, e1, hlt⟩
          obtain ⟨b1, b2, b3, b4⟩ : -4398046511104 ≤ e - y0 ∧ e - y0 ≤ 4398046511104 ∧ -4398046511104 ≤ u - x0 ∧ u - x0 ≤ 4398046511104 := near_point hF.out hI
          obtain ⟨p1, p2⟩ : -2305843009213693952 ≤ (e - y0) * s ∧ (e - y0) * s ≤ 2305843009213693952 := (by have := hF.out.prods hI; omega)
          obtain ⟨m, hK, hk⟩ := hF.out.place (z := 1) rfl hI
          rw [Int.mul_one] at hK
          have HK := Lib.hid hK
          obtain ⟨b, o, rfl⟩ := hr.out.addr (by omega)
          have q0 := (hr.out.below hB).cell (j := m) (by omega)
          have hby := hy.out.get m
          obtain ⟨cx, hcx⟩ : ∃ cx : Nat, zs.getD m 0 = (cx : Int) := ⟨(zs.getD m 0).toNat, by omega⟩
          rw [hcx] at q0 hby
          have i0 : (0 : Int) ≤ (m : Int) := by omega
          have i1 : (m : Int) < (zs.length : Int) := by omega
          have hwc : IntKind.i64.wrap (cx : Int) = (cx : Int) := IntWalk.i64_in _ (by omega)
          have HCX := Lib.hid hcx
          clear hcx hK hk
          by_cases hlt2 : (cx : Int) < (ps.length : Int)
          · skip
            go_wp2_with fail
            have P0 : Below wr.heap.size wr wr.drew := (Below.refl _ _).drew
            have toS : ∀ W' : World, Below wr.heap.size wr W' → (W'.cell? ⟨w.heap.size, 0, none⟩ = some (.int .i64 x0) ∧ W'.cell? ⟨w.heap.size, 1, none⟩ = some (.int .i64 y0) ∧ W'.cell? ⟨w.heap.size, 2, none⟩ = some (.int .i64 x1) ∧ W'.cell? ⟨w.heap.size, 3, none⟩ = some (.int .i64 y1) ∧ W'.cell? ⟨w.heap.size, 4, none⟩ = some (.int .i64 s) ∧ W'.cell? ⟨w.heap.size, 5, none⟩ = some (.slice (some ⟨b, o, none⟩) zs.length c) ∧ W'.cell? ⟨w.heap.size, 6, none⟩ = some (.slice B ps.length k) ∧ W'.cell? ⟨b, o + m, none⟩ = some (.int .u8 cx)) := fun W' h => ⟨cell_kept D0 h, cell_kept D1 h, cell_kept D2 h, cell_kept D3 h, cell_kept D4 h, cell_kept D5 h, cell_kept D6 h, cell_kept q0 h⟩
            have TOS := Lib.hid toS
            clear toS
            have hzN := hB.size
            refine wp_region_held_drew (S := fun w' => w'.cell? ⟨w.heap.size, 0, none⟩ = some (.int .i64 x0) ∧ w'.cell? ⟨w.heap.size, 1, none⟩ = some (.int .i64 y0) ∧ w'.cell? ⟨w.heap.size, 2, none⟩ = some (.int .i64 x1) ∧ w'.cell? ⟨w.heap.size, 3, none⟩ = some (.int .i64 y1) ∧ w'.cell? ⟨w.heap.size, 4, none⟩ = some (.int .i64 s) ∧ w'.cell? ⟨w.heap.size, 5, none⟩ = some (.slice (some ⟨b, o, none⟩) zs.length c) ∧ w'.cell? ⟨w.heap.size, 6, none⟩ = some (.slice B ps.length k) ∧ w'.cell? ⟨b, o + m, none⟩ = some (.int .u8 cx)) (by kernel_rfl) ?_ (fun hHeld => ?_)
            · (first | (refine TOS.out _ ?_; first | with_reducible exact P1 | with_reducible exact P0))
            refine wpAnyH_take (i := 0) (oi := _) (v := ?vr2_0) rfl (by kernel_rfl) (by kernel_rfl) (by kernel_rfl) (fun _ _ _ h => h) (Or.inl ⟨by rfl, ?hyr2_0⟩) (by assumption) ?restr2_0
            case hyr2_0 => (intro w hSw; (try dsimp only at hSw); go_simp <;> with_reducible rfl)
            try simp only [Act.put, List.getElem_toArray, List.getElem_cons_succ, List.getElem_cons_zero, List.setIfInBounds_toArray, List.set_cons_zero, List.set_cons_succ]
            refine wpAnyH_take (i := 1) (oi := _) (v := ?vr2_1) rfl (by kernel_rfl) (by kernel_rfl) (by kernel_rfl) (fun _ _ _ h => h) (Or.inl ⟨by rfl, ?hyr2_1⟩) (by assumption) ?restr2_1
            case hyr2_1 => (intro w hSw; (try dsimp only at hSw); go_simp <;> with_reducible rfl)
            try simp only [Act.put, List.getElem_toArray, List.getElem_cons_succ, List.getElem_cons_zero, List.setIfInBounds_toArray, List.set_cons_zero, List.set_cons_succ]
            refine wpAnyH_take (i := 2) (oi := _) (v := ?vr2_2) rfl (by kernel_rfl) (by kernel_rfl) (by kernel_rfl) (fun _ _ _ h => h) (Or.inl ⟨by rfl, ?hyr2_2⟩) (by assumption) ?restr2_2
            case hyr2_2 => (intro w hSw; (try dsimp only at hSw); go_simp <;> with_reducible rfl)
            try simp only [Act.put, List.getElem_toArray, List.getElem_cons_succ, List.getElem_cons_zero, List.setIfInBounds_toArray, List.set_cons_zero, List.set_cons_succ]
            refine wpAnyH_take (i := 3) (oi := _) (v := ?vr2_3) rfl (by kernel_rfl) (by kernel_rfl) (by kernel_rfl) (fun _ _ _ h => h) (Or.inl ⟨by rfl, ?hyr2_3⟩) (by assumption) ?restr2_3
            case hyr2_3 => (intro w hSw; (try dsimp only at hSw); go_simp <;> with_reducible rfl)
            try simp only [Act.put, List.getElem_toArray, List.getElem_cons_succ, List.getElem_cons_zero, List.setIfInBounds_toArray, List.set_cons_zero, List.set_cons_succ]
            refine wpAnyH_take (i := 4) (oi := _) (v := ?vr2_4) rfl (by kernel_rfl) (by kernel_rfl) (by kernel_rfl) (fun _ _ _ h => h) (Or.inl ⟨by rfl, ?hyr2_4⟩) (by assumption) ?restr2_4
            case hyr2_4 => (intro w hSw; (try dsimp only at hSw); go_simp <;> with_reducible rfl)
            try simp only [Act.put, List.getElem_toArray, List.getElem_cons_succ, List.getElem_cons_zero, List.setIfInBounds_toArray, List.set_cons_zero, List.set_cons_succ]
            refine wpAnyH_take (i := 9) (oi := _) (v := ?vr2_9) rfl (by kernel_rfl) (by kernel_rfl) (by kernel_rfl) (fun _ _ _ h => h) (Or.inl ⟨by rfl, ?hyr2_9⟩) (by assumption) ?restr2_9
            case hyr2_9 => (intro w hSw; (try dsimp only at hSw); go_simp <;> with_reducible rfl)
            try simp only [Act.put, List.getElem_toArray, List.getElem_cons_succ, List.getElem_cons_zero, List.setIfInBounds_toArray, List.set_cons_zero, List.set_cons_succ]
            refine wpAnyH_take (i := 10) (oi := _) (v := ?vr2_10) rfl (by kernel_rfl) (by kernel_rfl) (by kernel_rfl) (fun _ _ _ h => h) (Or.inl ⟨by rfl, ?hyr2_10⟩) (by assumption) ?restr2_10
            case hyr2_10 => (intro w hSw; (try dsimp only at hSw); go_simp <;> with_reducible rfl)
            try simp only [Act.put, List.getElem_toArray, List.getElem_cons_succ, List.getElem_cons_zero, List.setIfInBounds_toArray, List.set_cons_zero, List.set_cons_succ]
            refine wpAnyH_take (i := 11) (oi := _) (v := ?vr2_11) rfl (by kernel_rfl) (by kernel_rfl) (by kernel_rfl) (fun _ _ _ h => h) (Or.inl ⟨by rfl, ?hyr2_11⟩) (by assumption) ?restr2_11
            case hyr2_11 => (intro w hSw; (try dsimp only at hSw); go_simp <;> with_reducible rfl)
            try simp only [Act.put, List.getElem_toArray, List.getElem_cons_succ, List.getElem_cons_zero, List.setIfInBounds_toArray, List.set_cons_zero, List.set_cons_succ]
            refine wpAnyH_ready (rs := [5]) (by kernel_rfl) (by simp) ?_
            refine AllReadyH.cons (o := _) rfl (fun K hK => ?_) AllReadyH.nil
            go_simp
            (go_at_call 18; refine (atK_any x0 y0 x1 y1 s _ c zs B k ps u e _ b1 b2 b3 b4 p1 p2).mono ?_; rintro e v1' ⟨rfl, hq1⟩; rw [HK.out]; have P1 : Below wr.heap.size wr v1' := P0.trans (hq1.mono P0.size))
            refine hK.out _ _ ?_ (fun hHeld => ?_)
            · (first | (refine TOS.out _ ?_; first | with_reducible exact P1 | with_reducible exact P0))
            clear hK K
            try simp only [Act.put, List.getElem_toArray, List.getElem_cons_succ, List.getElem_cons_zero, List.setIfInBounds_toArray, List.set_cons_zero, List.set_cons_succ]
            refine wpAnyH_take (i := 6) (oi := _) (v := ?vr2_6) rfl (by kernel_rfl) (by kernel_rfl) (by kernel_rfl) (fun _ _ _ h => h) (Or.inl ⟨by rfl, ?hyr2_6⟩) (by assumption) ?restr2_6
            case hyr2_6 => (intro w hSw; (try dsimp only at hSw); go_simp <;> with_reducible rfl)
            try simp only [Act.put, List.getElem_toArray, List.getElem_cons_succ, List.getElem_cons_zero, List.setIfInBounds_toArray, List.set_cons_zero, List.set_cons_succ]
            refine wpAnyH_take (i := 7) (oi := _) (v := ?vr2_7) rfl (by kernel_rfl) (by kernel_rfl) (by kernel_rfl) (fun _ _ _ h => h) (Or.inl ⟨by rfl, ?hyr2_7⟩) (by assumption) ?restr2_7
            case hyr2_7 => (intro w hSw; (try dsimp only at hSw); go_simp <;> with_reducible rfl)
            try simp only [Act.put, List.getElem_toArray, List.getElem_cons_succ, List.getElem_cons_zero, List.setIfInBounds_toArray, List.set_cons_zero, List.set_cons_succ]
            refine wpAnyH_take (i := 8) (oi := _) (v := ?vr2_8) rfl (by kernel_rfl) (by kernel_rfl) (by kernel_rfl) (fun _ _ _ h => h) (Or.inl ⟨by rfl, ?hyr2_8⟩) (by assumption) ?restr2_8
            case hyr2_8 => (intro w hSw; (try dsimp only at hSw); go_simp <;> with_reducible rfl)
            try simp only [Act.put, List.getElem_toArray, List.getElem_cons_succ, List.getElem_cons_zero, List.setIfInBounds_toArray, List.set_cons_zero, List.set_cons_succ]
            refine wpAnyH_take (i := 12) (oi := _) (v := ?vr2_12) rfl (by kernel_rfl) (by kernel_rfl) (by kernel_rfl) (fun _ _ _ h => h) (Or.inl ⟨by rfl, ?hyr2_12⟩) (by assumption) ?restr2_12
            case hyr2_12 => (intro w hSw; (try dsimp only at hSw); go_simp <;> with_reducible rfl)
            try simp only [Act.put, List.getElem_toArray, List.getElem_cons_succ, List.getElem_cons_zero, List.setIfInBounds_toArray, List.set_cons_zero, List.set_cons_succ]
            refine wpAnyH_done (by kernel_rfl) ?_ _
            have KR2 : Hid (Below w.heap.size w v1' ∧ v1'.cell? ⟨w.heap.size, 0, none⟩ = some (.int .i64 x0) ∧ v1'.cell? ⟨w.heap.size, 1, none⟩ = some (.int .i64 y0) ∧ v1'.cell? ⟨w.heap.size, 2, none⟩ = some (.int .i64 x1) ∧ v1'.cell? ⟨w.heap.size, 3, none⟩ = some (.int .i64 y1) ∧ v1'.cell? ⟨w.heap.size, 4, none⟩ = some (.int .i64 s) ∧ v1'.cell? ⟨w.heap.size, 5, none⟩ = some (.slice (some ⟨b, o, none⟩) zs.length c) ∧ v1'.cell? ⟨w.heap.size, 6, none⟩ = some (.slice B ps.length k)) := by
              obtain ⟨k0, k1, k2, k3, k4, k5, k6, _⟩ := TOS.out _ P1
              exact ⟨hB.trans (P1.mono hzN), k0, k1, k2, k3, k4, k5, k6⟩
            clear TOS hHeld P0 P1 hq1 KR hB D0 D1 D2 D3 D4 D5 D6
            obtain ⟨hB, D0, D1, D2, D3, D4, D5, D6⟩ := id KR2.out
            have hge : ¬ (cx : Int) ≥ (ps.length : Int) := by omega
            have hge2 : ¬ (ps.length : Int) ≤ (cx : Int) := by omega
            go_wp2
            go_roundw
            case rel => exact ⟨u + 1, by go_num, by omega, by omega, KR2, show Hid _ from (fun x y h => (by rcases h with h | ⟨h1, h2, h3, h4⟩; exact HU.out x y (Or.inl h); by_cases hx : x < u; exact HU.out x y (Or.inr ⟨h1, hx, h3, h4⟩); have ex : x = u := (by omega); have ey : y = e := (by omega); rw [ex, ey, HK.out, Int.toNat_natCast, HCX.out]; exact hlt2))⟩
            case measure => simp [intOf]; omega
          · skip
            go_wp2_with fail
            have P0 : Below wr.heap.size wr wr.drew := (Below.refl _ _).drew
            have toS : ∀ W' : World, Below wr.heap.size wr W' → (W'.cell? ⟨w.heap.size, 0, none⟩ = some (.int .i64 x0) ∧ W'.cell? ⟨w.heap.size, 1, none⟩ = some (.int .i64 y0) ∧ W'.cell? ⟨w.heap.size, 2, none⟩ = some (.int .i64 x1) ∧ W'.cell? ⟨w.heap.size, 3, none⟩ = some (.int .i64 y1) ∧ W'.cell? ⟨w.heap.size, 4, none⟩ = some (.int .i64 s) ∧ W'.cell? ⟨w.heap.size, 5, none⟩ = some (.slice (some ⟨b, o, none⟩) zs.length c) ∧ W'.cell? ⟨w.heap.size, 6, none⟩ = some (.slice B ps.length k) ∧ W'.cell? ⟨b, o + m, none⟩ = some (.int .u8 cx)) := fun W' h => ⟨cell_kept D0 h, cell_kept D1 h, cell_kept D2 h, cell_kept D3 h, cell_kept D4 h, cell_kept D5 h, cell_kept D6 h, cell_kept q0 h⟩
            have TOS := Lib.hid toS
            clear toS
            have hzN := hB.size
            refine wp_region_held_drew (S := fun w' => w'.cell? ⟨w.heap.size, 0, none⟩ = some (.int .i64 x0) ∧ w'.cell? ⟨w.heap.size, 1, none⟩ = some (.int .i64 y0) ∧ w'.cell? ⟨w.heap.size, 2, none⟩ = some (.int .i64 x1) ∧ w'.cell? ⟨w.heap.size, 3, none⟩ = some (.int .i64 y1) ∧ w'.cell? ⟨w.heap.size, 4, none⟩ = some (.int .i64 s) ∧ w'.cell? ⟨w.heap.size, 5, none⟩ = some (.slice (some ⟨b, o, none⟩) zs.length c) ∧ w'.cell? ⟨w.heap.size, 6, none⟩ = some (.slice B ps.length k) ∧ w'.cell? ⟨b, o + m, none⟩ = some (.int .u8 cx)) (by kernel_rfl) ?_ (fun hHeld => ?_)
            · (first | (refine TOS.out _ ?_; first | with_reducible exact P1 | with_reducible exact P0))
            refine wpAnyH_take (i := 0) (oi := _) (v := ?vr3_0) rfl (by kernel_rfl) (by kernel_rfl) (by kernel_rfl) (fun _ _ _ h => h) (Or.inl ⟨by rfl, ?hyr3_0⟩) (by assumption) ?restr3_0
            case hyr3_0 => (intro w hSw; (try dsimp only at hSw); go_simp <;> with_reducible rfl)
            try simp only [Act.put, List.getElem_toArray, List.getElem_cons_succ, List.getElem_cons_zero, List.setIfInBounds_toArray, List.set_cons_zero, List.set_cons_succ]
            refine wpAnyH_take (i := 1) (oi := _) (v := ?vr3_1) rfl (by kernel_rfl) (by kernel_rfl) (by kernel_rfl) (fun _ _ _ h => h) (Or.inl ⟨by rfl, ?hyr3_1⟩) (by assumption) ?restr3_1
            case hyr3_1 => (intro w hSw; (try dsimp only at hSw); go_simp <;> with_reducible rfl)
            try simp only [Act.put, List.getElem_toArray, List.getElem_cons_succ, List.getElem_cons_zero, List.setIfInBounds_toArray, List.set_cons_zero, List.set_cons_succ]
            refine wpAnyH_take (i := 2) (oi := _) (v := ?vr3_2) rfl (by kernel_rfl) (by kernel_rfl) (by kernel_rfl) (fun _ _ _ h => h) (Or.inl ⟨by rfl, ?hyr3_2⟩) (by assumption) ?restr3_2
            case hyr3_2 => (intro w hSw; (try dsimp only at hSw); go_simp <;> with_reducible rfl)
            try simp only [Act.put, List.getElem_toArray, List.getElem_cons_succ, List.getElem_cons_zero, List.setIfInBounds_toArray, List.set_cons_zero, List.set_cons_succ]
            refine wpAnyH_take (i := 3) (oi := _) (v := ?vr3_3) rfl (by kernel_rfl) (by kernel_rfl) (by kernel_rfl) (fun _ _ _ h => h) (Or.inl ⟨by rfl, ?hyr3_3⟩) (by assumption) ?restr3_3
            case hyr3_3 => (intro w hSw; (try dsimp only at hSw); go_simp <;> with_reducible rfl)
            try simp only [Act.put, List.getElem_toArray, List.getElem_cons_succ, List.getElem_cons_zero, List.setIfInBounds_toArray, List.set_cons_zero, List.set_cons_succ]
            refine wpAnyH_take (i := 4) (oi := _) (v := ?vr3_4) rfl (by kernel_rfl) (by kernel_rfl) (by kernel_rfl) (fun _ _ _ h => h) (Or.inl ⟨by rfl, ?hyr3_4⟩) (by assumption) ?restr3_4
            case hyr3_4 => (intro w hSw; (try dsimp only at hSw); go_simp <;> with_reducible rfl)
            try simp only [Act.put, List.getElem_toArray, List.getElem_cons_succ, List.getElem_cons_zero, List.setIfInBounds_toArray, List.set_cons_zero, List.set_cons_succ]
            refine wpAnyH_take (i := 9) (oi := _) (v := ?vr3_9) rfl (by kernel_rfl) (by kernel_rfl) (by kernel_rfl) (fun _ _ _ h => h) (Or.inl ⟨by rfl, ?hyr3_9⟩) (by assumption) ?restr3_9
            case hyr3_9 => (intro w hSw; (try dsimp only at hSw); go_simp <;> with_reducible rfl)
            try simp only [Act.put, List.getElem_toArray, List.getElem_cons_succ, List.getElem_cons_zero, List.setIfInBounds_toArray, List.set_cons_zero, List.set_cons_succ]
            refine wpAnyH_take (i := 10) (oi := _) (v := ?vr3_10) rfl (by kernel_rfl) (by kernel_rfl) (by kernel_rfl) (fun _ _ _ h => h) (Or.inl ⟨by rfl, ?hyr3_10⟩) (by assumption) ?restr3_10
            case hyr3_10 => (intro w hSw; (try dsimp only at hSw); go_simp <;> with_reducible rfl)
            try simp only [Act.put, List.getElem_toArray, List.getElem_cons_succ, List.getElem_cons_zero, List.setIfInBounds_toArray, List.set_cons_zero, List.set_cons_succ]
            refine wpAnyH_take (i := 11) (oi := _) (v := ?vr3_11) rfl (by kernel_rfl) (by kernel_rfl) (by kernel_rfl) (fun _ _ _ h => h) (Or.inl ⟨by rfl, ?hyr3_11⟩) (by assumption) ?restr3_11
            case hyr3_11 => (intro w hSw; (try dsimp only at hSw); go_simp <;> with_reducible rfl)
            try simp only [Act.put, List.getElem_toArray, List.getElem_cons_succ, List.getElem_cons_zero, List.setIfInBounds_toArray, List.set_cons_zero, List.set_cons_succ]
            refine wpAnyH_ready (rs := [5]) (by kernel_rfl) (by simp) ?_
            refine AllReadyH.cons (o := _) rfl (fun K hK => ?_) AllReadyH.nil
            go_simp
            (go_at_call 18; refine (atK_any x0 y0 x1 y1 s _ c zs B k ps u e _ b1 b2 b3 b4 p1 p2).mono ?_; rintro e v1' ⟨rfl, hq1⟩; rw [HK.out]; have P1 : Below wr.heap.size wr v1' := P0.trans (hq1.mono P0.size))
            refine hK.out _ _ ?_ (fun hHeld => ?_)
            · (first | (refine TOS.out _ ?_; first | with_reducible exact P1 | with_reducible exact P0))
            clear hK K
            try simp only [Act.put, List.getElem_toArray, List.getElem_cons_succ, List.getElem_cons_zero, List.setIfInBounds_toArray, List.set_cons_zero, List.set_cons_succ]
            refine wpAnyH_take (i := 6) (oi := _) (v := ?vr3_6) rfl (by kernel_rfl) (by kernel_rfl) (by kernel_rfl) (fun _ _ _ h => h) (Or.inl ⟨by rfl, ?hyr3_6⟩) (by assumption) ?restr3_6
            case hyr3_6 => (intro w hSw; (try dsimp only at hSw); go_simp <;> with_reducible rfl)
            try simp only [Act.put, List.getElem_toArray, List.getElem_cons_succ, List.getElem_cons_zero, List.setIfInBounds_toArray, List.set_cons_zero, List.set_cons_succ]
            refine wpAnyH_take (i := 7) (oi := _) (v := ?vr3_7) rfl (by kernel_rfl) (by kernel_rfl) (by kernel_rfl) (fun _ _ _ h => h) (Or.inl ⟨by rfl, ?hyr3_7⟩) (by assumption) ?restr3_7
            case hyr3_7 => (intro w hSw; (try dsimp only at hSw); go_simp <;> with_reducible rfl)
            try simp only [Act.put, List.getElem_toArray, List.getElem_cons_succ, List.getElem_cons_zero, List.setIfInBounds_toArray, List.set_cons_zero, List.set_cons_succ]
            refine wpAnyH_take (i := 8) (oi := _) (v := ?vr3_8) rfl (by kernel_rfl) (by kernel_rfl) (by kernel_rfl) (fun _ _ _ h => h) (Or.inl ⟨by rfl, ?hyr3_8⟩) (by assumption) ?restr3_8
            case hyr3_8 => (intro w hSw; (try dsimp only at hSw); go_simp <;> with_reducible rfl)
            try simp only [Act.put, List.getElem_toArray, List.getElem_cons_succ, List.getElem_cons_zero, List.setIfInBounds_toArray, List.set_cons_zero, List.set_cons_succ]
            refine wpAnyH_take (i := 12) (oi := _) (v := ?vr3_12) rfl (by kernel_rfl) (by kernel_rfl) (by kernel_rfl) (fun _ _ _ h => h) (Or.inl ⟨by rfl, ?hyr3_12⟩) (by assumption) ?restr3_12
            case hyr3_12 => (intro w hSw; (try dsimp only at hSw); go_simp <;> with_reducible rfl)
            try simp only [Act.put, List.getElem_toArray, List.getElem_cons_succ, List.getElem_cons_zero, List.setIfInBounds_toArray, List.set_cons_zero, List.set_cons_succ]
            refine wpAnyH_done (by kernel_rfl) ?_ _
            have KR2 : Hid (Below w.heap.size w v1' ∧ v1'.cell? ⟨w.heap.size, 0, none⟩ = some (.int .i64 x0) ∧ v1'.cell? ⟨w.heap.size, 1, none⟩ = some (.int .i64 y0) ∧ v1'.cell? ⟨w.heap.size, 2, none⟩ = some (.int .i64 x1) ∧ v1'.cell? ⟨w.heap.size, 3, none⟩ = some (.int .i64 y1) ∧ v1'.cell? ⟨w.heap.size, 4, none⟩ = some (.int .i64 s) ∧ v1'.cell? ⟨w.heap.size, 5, none⟩ = some (.slice (some ⟨b, o, none⟩) zs.length c) ∧ v1'.cell? ⟨w.heap.size, 6, none⟩ = some (.slice B ps.length k)) := by
              obtain ⟨k0, k1, k2, k3, k4, k5, k6, _⟩ := TOS.out _ P1
              exact ⟨hB.trans (P1.mono hzN), k0, k1, k2, k3, k4, k5, k6⟩
            clear TOS hHeld P0 P1 hq1 KR hB D0 D1 D2 D3 D4 D5 D6
            obtain ⟨hB, D0, D1, D2, D3, D4, D5, D6⟩ := id KR2.out
            have hge : (cx : Int) ≥ (ps.length : Int) := by omega
            have hge2 : (ps.length : Int) ≤ (cx : Int) := by omega
            go_wp2
            go_ret
            exact ⟨by simp, hB⟩
        · go_wp2
          go_roundw
          case rel => exact ⟨e + 1, by go_num, by omega, by omega, KR, show Hid _ from fun x y h => HU.out x y (by obtain ⟨_, _, _, _⟩ := h; by_cases hy : y < e; exact Or.inl ⟨by omega, by omega, by omega, hy⟩; exact Or.inr ⟨by omega, by omega, by omega, by omega⟩)⟩
          case measure => simp [intOf]; omega
    · exact absurd (fun x y h => HD.out x y (by rw [show e = y1 by omega]; exact h)) hkn.out

set_option maxRecDepth 100000 in
set_option maxHeartbeats 2000000 in
theorem implOpaque_any (x0 y0 x1 y1 s : Int) (A : Option Addr) (c : Nat) (zs : List Int) (B : Option Addr) (k : Nat) (ps : List (Int × Int × Int × Int)) (w : World) (hr : Hid (Reads w A zs)) (hl : Small zs) (hn : Hid (A = none → c = 0)) (pr : Hid (PReads w B ps)) (hy : Hid (Bytes zs)) (pok : Hid (∀ p ∈ ps, 0 ≤ p.1 ∧ p.1 ≤ 65535 ∧ 0 ≤ p.2.1 ∧ p.2.1 ≤ 65535 ∧ 0 ≤ p.2.2.1 ∧ p.2.2.1 ≤ 65535 ∧ 0 ≤ p.2.2.2 ∧ p.2.2.2 ≤ 65535)) (pl : (ps.length : Int) ≤ 256) (hF : Hid (Fits x0 y0 x1 y1 s 1 zs.length)) (hE : Hid (¬ Empt x0 y0 x1 y1)) (wd ht : Nat) (HW : Hid (x1 - x0 = wd)) (HH : Hid (y1 - y0 = ht)) (hkp : Hid (∀ i j, i < ht → j < wd → pixN zs s i j < ps.length)) (res : Bool) (HRS : Hid (allA zs ps s wd ht = res)) :
    Calls Try.prog 25 #[.agg #[.int .i64 x0, .int .i64 y0, .int .i64 x1, .int .i64 y1, .int .i64 s, .slice A zs.length c, .slice B ps.length k]] w fun e w' => e = .returned (.bool res) ∧ Below w.heap.size w w' := by
  have pl2 : (ps.length : Int) ≤ 2097152 := by omega
  have hp : 0 < zs.length := by
    have hI : Insd x0 y0 x1 y1 x0 y0 := by have := hE.out; unfold Empt at this; unfold Insd; omega
    have := hF.out.at_ (by omega) hI
    omega
  have hB : Below w.heap.size w (w.alloc (.cells #[.int .i64 x0, .int .i64 y0, .int .i64 x1, .int .i64 y1, .int .i64 s, .slice A zs.length c, .slice B ps.length k] 27)) := (Below.refl _ _).alloc (Nat.le_refl _) _
  have D0 : (w.alloc (.cells #[.int .i64 x0, .int .i64 y0, .int .i64 x1, .int .i64 y1, .int .i64 s, .slice A zs.length c, .slice B ps.length k] 27)).cell? ⟨w.heap.size, 0, none⟩ = some (.int .i64 x0) := by first | (simp; done) | go_simp
  have D1 : (w.alloc (.cells #[.int .i64 x0, .int .i64 y0, .int .i64 x1, .int .i64 y1, .int .i64 s, .slice A zs.length c, .slice B ps.length k] 27)).cell? ⟨w.heap.size, 1, none⟩ = some (.int .i64 y0) := by first | (simp; done) | go_simp
  have D2 : (w.alloc (.cells #[.int .i64 x0, .int .i64 y0, .int .i64 x1, .int .i64 y1, .int .i64 s, .slice A zs.length c, .slice B ps.length k] 27)).cell? ⟨w.heap.size, 2, none⟩ = some (.int .i64 x1) := by first | (simp; done) | go_simp
  have D3 : (w.alloc (.cells #[.int .i64 x0, .int .i64 y0, .int .i64 x1, .int .i64 y1, .int .i64 s, .slice A zs.length c, .slice B ps.length k] 27)).cell? ⟨w.heap.size, 3, none⟩ = some (.int .i64 y1) := by first | (simp; done) | go_simp
  have D4 : (w.alloc (.cells #[.int .i64 x0, .int .i64 y0, .int .i64 x1, .int .i64 y1, .int .i64 s, .slice A zs.length c, .slice B ps.length k] 27)).cell? ⟨w.heap.size, 4, none⟩ = some (.int .i64 s) := by first | (simp; done) | go_simp
  have D5 : (w.alloc (.cells #[.int .i64 x0, .int .i64 y0, .int .i64 x1, .int .i64 y1, .int .i64 s, .slice A zs.length c, .slice B ps.length k] 27)).cell? ⟨w.heap.size, 5, none⟩ = some (.slice A zs.length c) := by first | (simp; done) | go_simp
  have D6 : (w.alloc (.cells #[.int .i64 x0, .int .i64 y0, .int .i64 x1, .int .i64 y1, .int .i64 s, .slice A zs.length c, .slice B ps.length k] 27)).cell? ⟨w.heap.size, 6, none⟩ = some (.slice B ps.length k) := by first | (simp; done) | go_simp
  have HR := Lib.hid (hr.out.below hB)
  have HP := Lib.hid (pr.out.below hB)
  go_enter Try.func25, Try.ntmps25
  go_wp2_with fail
  generalize w.alloc (.cells #[.int .i64 x0, .int .i64 y0, .int .i64 x1, .int .i64 y1, .int .i64 s, .slice A zs.length c, .slice B ps.length k] 27) = W0 at *
  refine (to_any x0 y0 x1 y1 s A c zs B k ps _ HR hl hn HP pl2).mono ?_
  rintro e w1 ⟨g, A', c', B', k', rfl, hgb, hg, ho, hi, hb1⟩
  have HG := Lib.hid hg
  have HO := Lib.hid ho
  have HI := Lib.hid (IReads.of_own hi)
  clear hg ho hi
  replace D0 := cell_kept D0 hb1
  replace D1 := cell_kept D1 hb1
  replace D2 := cell_kept D2 hb1
  replace D3 := cell_kept D3 hb1
  replace D4 := cell_kept D4 hb1
  replace D5 := cell_kept D5 hb1
  replace D6 := cell_kept D6 hb1
  replace HR := Lib.hid (HR.out.below hb1)
  replace HP := Lib.hid (HP.out.below hb1)
  replace hB := hB.trans (hb1.mono hB.size)
  clear hb1
  obtain ⟨bb, ms, rfl, _, _, _, hmc, _⟩ := own_block HO.out hp
  have hln : (zs.length : Int) ≤ 140737488351232 := by have := hl; unfold Small at this; omega
  go_wp2_with fail
  refine (opaqueM g bb x0 y0 x1 y1 s none c' zs B' k' ps wd ht _ HG.out (Reads.of_own HO.out) hy hln (by omega) hF hE HW.out HH.out HI pl pok hkp).mono ?_
  rintro e w2 ⟨rfl, hb2⟩
  rw [HRS.out]
  go_wp2
  go_ret
  exact ⟨by simp, hB.trans (hb2.mono hB.size)⟩

set_option maxRecDepth 100000 in
set_option maxHeartbeats 2000000 in
theorem opq_g0 (x0 y0 x1 y1 s : Int) (A : Option Addr) (c : Nat) (zs : List Int) (B : Option Addr) (k : Nat) (ps : List (Int × Int × Int × Int)) (w : World) (hr : Hid (Reads w A zs)) (hl : Small zs) (hn : Hid (A = none → c = 0)) (pr : Hid (PReads w B ps)) (hy : Hid (Bytes zs)) (pok : Hid (∀ p ∈ ps, 0 ≤ p.1 ∧ p.1 ≤ 65535 ∧ 0 ≤ p.2.1 ∧ p.2.1 ≤ 65535 ∧ 0 ≤ p.2.2.1 ∧ p.2.2.1 ≤ 65535 ∧ 0 ≤ p.2.2.2 ∧ p.2.2.2 ≤ 65535)) (hF : Hid (¬ Fits x0 y0 x1 y1 s 1 zs.length)) :
    Calls Try.prog 7 #[.agg #[.int .i64 x0, .int .i64 y0, .int .i64 x1, .int .i64 y1, .int .i64 s, .slice A zs.length c, .slice B ps.length k]] w fun e w' => e = .returned (.bool true) ∧ Below w.heap.size w w' := by
  have hB : Below w.heap.size w (w.alloc (.cells #[.int .i64 x0, .int .i64 y0, .int .i64 x1, .int .i64 y1, .int .i64 s, .slice A zs.length c, .slice B ps.length k] 27)) := (Below.refl _ _).alloc (Nat.le_refl _) _
  have D0 : (w.alloc (.cells #[.int .i64 x0, .int .i64 y0, .int .i64 x1, .int .i64 y1, .int .i64 s, .slice A zs.length c, .slice B ps.length k] 27)).cell? ⟨w.heap.size, 0, none⟩ = some (.int .i64 x0) := by first | (simp; done) | go_simp
  have D1 : (w.alloc (.cells #[.int .i64 x0, .int .i64 y0, .int .i64 x1, .int .i64 y1, .int .i64 s, .slice A zs.length c, .slice B ps.length k] 27)).cell? ⟨w.heap.size, 1, none⟩ = some (.int .i64 y0) := by first | (simp; done) | go_simp
  have D2 : (w.alloc (.cells #[.int .i64 x0, .int .i64 y0, .int .i64 x1, .int .i64 y1, .int .i64 s, .slice A zs.length c, .slice B ps.length k] 27)).cell? ⟨w.heap.size, 2, none⟩ = some (.int .i64 x1) := by first | (simp; done) | go_simp
  have D3 : (w.alloc (.cells #[.int .i64 x0, .int .i64 y0, .int .i64 x1, .int .i64 y1, .int .i64 s, .slice A zs.length c, .slice B ps.length k] 27)).cell? ⟨w.heap.size, 3, none⟩ = some (.int .i64 y1) := by first | (simp; done) | go_simp
  have D4 : (w.alloc (.cells #[.int .i64 x0, .int .i64 y0, .int .i64 x1, .int .i64 y1, .int .i64 s, .slice A zs.length c, .slice B ps.length k] 27)).cell? ⟨w.heap.size, 4, none⟩ = some (.int .i64 s) := by first | (simp; done) | go_simp
  have D5 : (w.alloc (.cells #[.int .i64 x0, .int .i64 y0, .int .i64 x1, .int .i64 y1, .int .i64 s, .slice A zs.length c, .slice B ps.length k] 27)).cell? ⟨w.heap.size, 5, none⟩ = some (.slice A zs.length c) := by first | (simp; done) | go_simp
  have D6 : (w.alloc (.cells #[.int .i64 x0, .int .i64 y0, .int .i64 x1, .int .i64 y1, .int .i64 s, .slice A zs.length c, .slice B ps.length k] 27)).cell? ⟨w.heap.size, 6, none⟩ = some (.slice B ps.length k) := by first | (simp; done) | go_simp
  have HR := Lib.hid (hr.out.below hB)
  have HP := Lib.hid (pr.out.below hB)
  go_enter Try.func7, Try.ntmps7
  go_wp2_with fail
  generalize w.alloc (.cells #[.int .i64 x0, .int .i64 y0, .int .i64 x1, .int .i64 y1, .int .i64 s, .slice A zs.length c, .slice B ps.length k] 27) = W0 at *
  go_wp2_with fail
  refine (fitsK_any x0 y0 x1 y1 s A c zs B k ps false (by simp [hF.out]) _).mono ?_
  rintro e w1 ⟨rfl, hb1⟩
  replace D0 := cell_kept D0 hb1
  replace D1 := cell_kept D1 hb1
  replace D2 := cell_kept D2 hb1
  replace D3 := cell_kept D3 hb1
  replace D4 := cell_kept D4 hb1
  replace D5 := cell_kept D5 hb1
  replace D6 := cell_kept D6 hb1
  replace HR := Lib.hid (HR.out.below hb1)
  replace HP := Lib.hid (HP.out.below hb1)
  replace hB := hB.trans (hb1.mono hB.size)
  clear hb1
  go_wp2
  go_ret
  exact ⟨by simp, hB⟩

set_option maxRecDepth 100000 in
set_option maxHeartbeats 2000000 in
theorem opq_g1 (x0 y0 x1 y1 s : Int) (A : Option Addr) (c : Nat) (zs : List Int) (B : Option Addr) (k : Nat) (ps : List (Int × Int × Int × Int)) (w : World) (hr : Hid (Reads w A zs)) (hl : Small zs) (hn : Hid (A = none → c = 0)) (pr : Hid (PReads w B ps)) (hy : Hid (Bytes zs)) (pok : Hid (∀ p ∈ ps, 0 ≤ p.1 ∧ p.1 ≤ 65535 ∧ 0 ≤ p.2.1 ∧ p.2.1 ≤ 65535 ∧ 0 ≤ p.2.2.1 ∧ p.2.2.1 ≤ 65535 ∧ 0 ≤ p.2.2.2 ∧ p.2.2.2 ≤ 65535)) (hF : Hid (Fits x0 y0 x1 y1 s 1 zs.length)) (hE : Hid (Empt x0 y0 x1 y1)) :
    Calls Try.prog 7 #[.agg #[.int .i64 x0, .int .i64 y0, .int .i64 x1, .int .i64 y1, .int .i64 s, .slice A zs.length c, .slice B ps.length k]] w fun e w' => e = .returned (.bool true) ∧ Below w.heap.size w w' := by
  have hB : Below w.heap.size w (w.alloc (.cells #[.int .i64 x0, .int .i64 y0, .int .i64 x1, .int .i64 y1, .int .i64 s, .slice A zs.length c, .slice B ps.length k] 27)) := (Below.refl _ _).alloc (Nat.le_refl _) _
  have D0 : (w.alloc (.cells #[.int .i64 x0, .int .i64 y0, .int .i64 x1, .int .i64 y1, .int .i64 s, .slice A zs.length c, .slice B ps.length k] 27)).cell? ⟨w.heap.size, 0, none⟩ = some (.int .i64 x0) := by first | (simp; done) | go_simp
  have D1 : (w.alloc (.cells #[.int .i64 x0, .int .i64 y0, .int .i64 x1, .int .i64 y1, .int .i64 s, .slice A zs.length c, .slice B ps.length k] 27)).cell? ⟨w.heap.size, 1, none⟩ = some (.int .i64 y0) := by first | (simp; done) | go_simp
  have D2 : (w.alloc (.cells #[.int .i64 x0, .int .i64 y0, .int .i64 x1, .int .i64 y1, .int .i64 s, .slice A zs.length c, .slice B ps.length k] 27)).cell? ⟨w.heap.size, 2, none⟩ = some (.int .i64 x1) := by first | (simp; done) | go_simp
  have D3 : (w.alloc (.cells #[.int .i64 x0, .int .i64 y0, .int .i64 x1, .int .i64 y1, .int .i64 s, .slice A zs.length c, .slice B ps.length k] 27)).cell? ⟨w.heap.size, 3, none⟩ = some (.int .i64 y1) := by first | (simp; done) | go_simp
  have D4 : (w.alloc (.cells #[.int .i64 x0, .int .i64 y0, .int .i64 x1, .int .i64 y1, .int .i64 s, .slice A zs.length c, .slice B ps.length k] 27)).cell? ⟨w.heap.size, 4, none⟩ = some (.int .i64 s) := by first | (simp; done) | go_simp
  have D5 : (w.alloc (.cells #[.int .i64 x0, .int .i64 y0, .int .i64 x1, .int .i64 y1, .int .i64 s, .slice A zs.length c, .slice B ps.length k] 27)).cell? ⟨w.heap.size, 5, none⟩ = some (.slice A zs.length c) := by first | (simp; done) | go_simp
  have D6 : (w.alloc (.cells #[.int .i64 x0, .int .i64 y0, .int .i64 x1, .int .i64 y1, .int .i64 s, .slice A zs.length c, .slice B ps.length k] 27)).cell? ⟨w.heap.size, 6, none⟩ = some (.slice B ps.length k) := by first | (simp; done) | go_simp
  have HR := Lib.hid (hr.out.below hB)
  have HP := Lib.hid (pr.out.below hB)
  go_enter Try.func7, Try.ntmps7
  go_wp2_with fail
  generalize w.alloc (.cells #[.int .i64 x0, .int .i64 y0, .int .i64 x1, .int .i64 y1, .int .i64 s, .slice A zs.length c, .slice B ps.length k] 27) = W0 at *
  go_wp2_with fail
  refine (fitsK_any x0 y0 x1 y1 s A c zs B k ps true (by simp [hF.out]) _).mono ?_
  rintro e w1 ⟨rfl, hb1⟩
  replace D0 := cell_kept D0 hb1
  replace D1 := cell_kept D1 hb1
  replace D2 := cell_kept D2 hb1
  replace D3 := cell_kept D3 hb1
  replace D4 := cell_kept D4 hb1
  replace D5 := cell_kept D5 hb1
  replace D6 := cell_kept D6 hb1
  replace HR := Lib.hid (HR.out.below hb1)
  replace HP := Lib.hid (HP.out.below hb1)
  replace hB := hB.trans (hb1.mono hB.size)
  clear hb1
  go_wp2_with fail
  refine (box_any x0 y0 x1 y1 _).mono ?_
  rintro e w2 ⟨rfl, hb2⟩
  replace D0 := cell_kept D0 hb2
  replace D1 := cell_kept D1 hb2
  replace D2 := cell_kept D2 hb2
  replace D3 := cell_kept D3 hb2
  replace D4 := cell_kept D4 hb2
  replace D5 := cell_kept D5 hb2
  replace D6 := cell_kept D6 hb2
  replace HR := Lib.hid (HR.out.below hb2)
  replace HP := Lib.hid (HP.out.below hb2)
  replace hB := hB.trans (hb2.mono hB.size)
  clear hb2
  go_wp2_with fail
  refine (empt_any x0 y0 x1 y1 true (by simp [hE.out]) _).mono ?_
  rintro e w3 ⟨rfl, hb3⟩
  replace D0 := cell_kept D0 hb3
  replace D1 := cell_kept D1 hb3
  replace D2 := cell_kept D2 hb3
  replace D3 := cell_kept D3 hb3
  replace D4 := cell_kept D4 hb3
  replace D5 := cell_kept D5 hb3
  replace D6 := cell_kept D6 hb3
  replace HR := Lib.hid (HR.out.below hb3)
  replace HP := Lib.hid (HP.out.below hb3)
  replace hB := hB.trans (hb3.mono hB.size)
  clear hb3
  go_wp2
  go_ret
  exact ⟨by simp, hB⟩

set_option maxRecDepth 100000 in
set_option maxHeartbeats 2000000 in
theorem opq_g2 (x0 y0 x1 y1 s : Int) (A : Option Addr) (c : Nat) (zs : List Int) (B : Option Addr) (k : Nat) (ps : List (Int × Int × Int × Int)) (w : World) (hr : Hid (Reads w A zs)) (hl : Small zs) (hn : Hid (A = none → c = 0)) (pr : Hid (PReads w B ps)) (hy : Hid (Bytes zs)) (pok : Hid (∀ p ∈ ps, 0 ≤ p.1 ∧ p.1 ≤ 65535 ∧ 0 ≤ p.2.1 ∧ p.2.1 ≤ 65535 ∧ 0 ≤ p.2.2.1 ∧ p.2.2.1 ≤ 65535 ∧ 0 ≤ p.2.2.2 ∧ p.2.2.2 ≤ 65535)) (hF : Hid (Fits x0 y0 x1 y1 s 1 zs.length)) (hE : Hid (¬ Empt x0 y0 x1 y1)) (hkn : Hid (¬ Known x0 y0 x1 y1 s zs ps.length)) :
    Calls Try.prog 7 #[.agg #[.int .i64 x0, .int .i64 y0, .int .i64 x1, .int .i64 y1, .int .i64 s, .slice A zs.length c, .slice B ps.length k]] w fun e w' => e = .returned (.bool true) ∧ Below w.heap.size w w' := by
  have hB : Below w.heap.size w (w.alloc (.cells #[.int .i64 x0, .int .i64 y0, .int .i64 x1, .int .i64 y1, .int .i64 s, .slice A zs.length c, .slice B ps.length k] 27)) := (Below.refl _ _).alloc (Nat.le_refl _) _
  have D0 : (w.alloc (.cells #[.int .i64 x0, .int .i64 y0, .int .i64 x1, .int .i64 y1, .int .i64 s, .slice A zs.length c, .slice B ps.length k] 27)).cell? ⟨w.heap.size, 0, none⟩ = some (.int .i64 x0) := by first | (simp; done) | go_simp
  have D1 : (w.alloc (.cells #[.int .i64 x0, .int .i64 y0, .int .i64 x1, .int .i64 y1, .int .i64 s, .slice A zs.length c, .slice B ps.length k] 27)).cell? ⟨w.heap.size, 1, none⟩ = some (.int .i64 y0) := by first | (simp; done) | go_simp
  have D2 : (w.alloc (.cells #[.int .i64 x0, .int .i64 y0, .int .i64 x1, .int .i64 y1, .int .i64 s, .slice A zs.length c, .slice B ps.length k] 27)).cell? ⟨w.heap.size, 2, none⟩ = some (.int .i64 x1) := by first | (simp; done) | go_simp
  have D3 : (w.alloc (.cells #[.int .i64 x0, .int .i64 y0, .int .i64 x1, .int .i64 y1, .int .i64 s, .slice A zs.length c, .slice B ps.length k] 27)).cell? ⟨w.heap.size, 3, none⟩ = some (.int .i64 y1) := by first | (simp; done) | go_simp
  have D4 : (w.alloc (.cells #[.int .i64 x0, .int .i64 y0, .int .i64 x1, .int .i64 y1, .int .i64 s, .slice A zs.length c, .slice B ps.length k] 27)).cell? ⟨w.heap.size, 4, none⟩ = some (.int .i64 s) := by first | (simp; done) | go_simp
  have D5 : (w.alloc (.cells #[.int .i64 x0, .int .i64 y0, .int .i64 x1, .int .i64 y1, .int .i64 s, .slice A zs.length c, .slice B ps.length k] 27)).cell? ⟨w.heap.size, 5, none⟩ = some (.slice A zs.length c) := by first | (simp; done) | go_simp
  have D6 : (w.alloc (.cells #[.int .i64 x0, .int .i64 y0, .int .i64 x1, .int .i64 y1, .int .i64 s, .slice A zs.length c, .slice B ps.length k] 27)).cell? ⟨w.heap.size, 6, none⟩ = some (.slice B ps.length k) := by first | (simp; done) | go_simp
  have HR := Lib.hid (hr.out.below hB)
  have HP := Lib.hid (pr.out.below hB)
  go_enter Try.func7, Try.ntmps7
  go_wp2_with fail
  generalize w.alloc (.cells #[.int .i64 x0, .int .i64 y0, .int .i64 x1, .int .i64 y1, .int .i64 s, .slice A zs.length c, .slice B ps.length k] 27) = W0 at *
  go_wp2_with fail
  refine (fitsK_any x0 y0 x1 y1 s A c zs B k ps true (by simp [hF.out]) _).mono ?_
  rintro e w1 ⟨rfl, hb1⟩
  replace D0 := cell_kept D0 hb1
  replace D1 := cell_kept D1 hb1
  replace D2 := cell_kept D2 hb1
  replace D3 := cell_kept D3 hb1
  replace D4 := cell_kept D4 hb1
  replace D5 := cell_kept D5 hb1
  replace D6 := cell_kept D6 hb1
  replace HR := Lib.hid (HR.out.below hb1)
  replace HP := Lib.hid (HP.out.below hb1)
  replace hB := hB.trans (hb1.mono hB.size)
  clear hb1
  go_wp2_with fail
  refine (box_any x0 y0 x1 y1 _).mono ?_
  rintro e w2 ⟨rfl, hb2⟩
  replace D0 := cell_kept D0 hb2
  replace D1 := cell_kept D1 hb2
  replace D2 := cell_kept D2 hb2
  replace D3 := cell_kept D3 hb2
  replace D4 := cell_kept D4 hb2
  replace D5 := cell_kept D5 hb2
  replace D6 := cell_kept D6 hb2
  replace HR := Lib.hid (HR.out.below hb2)
  replace HP := Lib.hid (HP.out.below hb2)
  replace hB := hB.trans (hb2.mono hB.size)
  clear hb2
  go_wp2_with fail
  refine (empt_any x0 y0 x1 y1 false (by simp [hE.out]) _).mono ?_
  rintro e w3 ⟨rfl, hb3⟩
  replace D0 := cell_kept D0 hb3
  replace D1 := cell_kept D1 hb3
  replace D2 := cell_kept D2 hb3
  replace D3 := cell_kept D3 hb3
  replace D4 := cell_kept D4 hb3
  replace D5 := cell_kept D5 hb3
  replace D6 := cell_kept D6 hb3
  replace HR := Lib.hid (HR.out.below hb3)
  replace HP := Lib.hid (HP.out.below hb3)
  replace hB := hB.trans (hb3.mono hB.size)
  clear hb3
  go_wp2_with fail
  refine (known_no x0 y0 x1 y1 s A c zs B k ps _ HR hl hn HP hy pok hF hkn).mono ?_
  rintro e w4 ⟨rfl, hb4⟩
  replace D0 := cell_kept D0 hb4
  replace D1 := cell_kept D1 hb4
  replace D2 := cell_kept D2 hb4
  replace D3 := cell_kept D3 hb4
  replace D4 := cell_kept D4 hb4
  replace D5 := cell_kept D5 hb4
  replace D6 := cell_kept D6 hb4
  replace HR := Lib.hid (HR.out.below hb4)
  replace HP := Lib.hid (HP.out.below hb4)
  replace hB := hB.trans (hb4.mono hB.size)
  clear hb4
  go_wp2
  go_ret
  exact ⟨by simp, hB⟩

set_option maxRecDepth 100000 in
set_option maxHeartbeats 2000000 in
theorem opq_g3 (x0 y0 x1 y1 s : Int) (A : Option Addr) (c : Nat) (zs : List Int) (B : Option Addr) (k : Nat) (ps : List (Int × Int × Int × Int)) (w : World) (hr : Hid (Reads w A zs)) (hl : Small zs) (hn : Hid (A = none → c = 0)) (pr : Hid (PReads w B ps)) (hy : Hid (Bytes zs)) (pok : Hid (∀ p ∈ ps, 0 ≤ p.1 ∧ p.1 ≤ 65535 ∧ 0 ≤ p.2.1 ∧ p.2.1 ≤ 65535 ∧ 0 ≤ p.2.2.1 ∧ p.2.2.1 ≤ 65535 ∧ 0 ≤ p.2.2.2 ∧ p.2.2.2 ≤ 65535)) (hF : Hid (Fits x0 y0 x1 y1 s 1 zs.length)) (hE : Hid (¬ Empt x0 y0 x1 y1)) (hkn : Hid (Known x0 y0 x1 y1 s zs ps.length)) (pl : (256 : Int) < ps.length) :
    Calls Try.prog 7 #[.agg #[.int .i64 x0, .int .i64 y0, .int .i64 x1, .int .i64 y1, .int .i64 s, .slice A zs.length c, .slice B ps.length k]] w fun e w' => e = .returned (.bool true) ∧ Below w.heap.size w w' := by
  have hB : Below w.heap.size w (w.alloc (.cells #[.int .i64 x0, .int .i64 y0, .int .i64 x1, .int .i64 y1, .int .i64 s, .slice A zs.length c, .slice B ps.length k] 27)) := (Below.refl _ _).alloc (Nat.le_refl _) _
  have D0 : (w.alloc (.cells #[.int .i64 x0, .int .i64 y0, .int .i64 x1, .int .i64 y1, .int .i64 s, .slice A zs.length c, .slice B ps.length k] 27)).cell? ⟨w.heap.size, 0, none⟩ = some (.int .i64 x0) := by first | (simp; done) | go_simp
  have D1 : (w.alloc (.cells #[.int .i64 x0, .int .i64 y0, .int .i64 x1, .int .i64 y1, .int .i64 s, .slice A zs.length c, .slice B ps.length k] 27)).cell? ⟨w.heap.size, 1, none⟩ = some (.int .i64 y0) := by first | (simp; done) | go_simp
  have D2 : (w.alloc (.cells #[.int .i64 x0, .int .i64 y0, .int .i64 x1, .int .i64 y1, .int .i64 s, .slice A zs.length c, .slice B ps.length k] 27)).cell? ⟨w.heap.size, 2, none⟩ = some (.int .i64 x1) := by first | (simp; done) | go_simp
  have D3 : (w.alloc (.cells #[.int .i64 x0, .int .i64 y0, .int .i64 x1, .int .i64 y1, .int .i64 s, .slice A zs.length c, .slice B ps.length k] 27)).cell? ⟨w.heap.size, 3, none⟩ = some (.int .i64 y1) := by first | (simp; done) | go_simp
  have D4 : (w.alloc (.cells #[.int .i64 x0, .int .i64 y0, .int .i64 x1, .int .i64 y1, .int .i64 s, .slice A zs.length c, .slice B ps.length k] 27)).cell? ⟨w.heap.size, 4, none⟩ = some (.int .i64 s) := by first | (simp; done) | go_simp
  have D5 : (w.alloc (.cells #[.int .i64 x0, .int .i64 y0, .int .i64 x1, .int .i64 y1, .int .i64 s, .slice A zs.length c, .slice B ps.length k] 27)).cell? ⟨w.heap.size, 5, none⟩ = some (.slice A zs.length c) := by first | (simp; done) | go_simp
  have D6 : (w.alloc (.cells #[.int .i64 x0, .int .i64 y0, .int .i64 x1, .int .i64 y1, .int .i64 s, .slice A zs.length c, .slice B ps.length k] 27)).cell? ⟨w.heap.size, 6, none⟩ = some (.slice B ps.length k) := by first | (simp; done) | go_simp
  have HR := Lib.hid (hr.out.below hB)
  have HP := Lib.hid (pr.out.below hB)
  go_enter Try.func7, Try.ntmps7
  go_wp2_with fail
  generalize w.alloc (.cells #[.int .i64 x0, .int .i64 y0, .int .i64 x1, .int .i64 y1, .int .i64 s, .slice A zs.length c, .slice B ps.length k] 27) = W0 at *
  go_wp2_with fail
  refine (fitsK_any x0 y0 x1 y1 s A c zs B k ps true (by simp [hF.out]) _).mono ?_
  rintro e w1 ⟨rfl, hb1⟩
  replace D0 := cell_kept D0 hb1
  replace D1 := cell_kept D1 hb1
  replace D2 := cell_kept D2 hb1
  replace D3 := cell_kept D3 hb1
  replace D4 := cell_kept D4 hb1
  replace D5 := cell_kept D5 hb1
  replace D6 := cell_kept D6 hb1
  replace HR := Lib.hid (HR.out.below hb1)
  replace HP := Lib.hid (HP.out.below hb1)
  replace hB := hB.trans (hb1.mono hB.size)
  clear hb1
  go_wp2_with fail
  refine (box_any x0 y0 x1 y1 _).mono ?_
  rintro e w2 ⟨rfl, hb2⟩
  replace D0 := cell_kept D0 hb2
  replace D1 := cell_kept D1 hb2
  replace D2 := cell_kept D2 hb2
  replace D3 := cell_kept D3 hb2
  replace D4 := cell_kept D4 hb2
  replace D5 := cell_kept D5 hb2
  replace D6 := cell_kept D6 hb2
  replace HR := Lib.hid (HR.out.below hb2)
  replace HP := Lib.hid (HP.out.below hb2)
  replace hB := hB.trans (hb2.mono hB.size)
  clear hb2
  go_wp2_with fail
  refine (empt_any x0 y0 x1 y1 false (by simp [hE.out]) _).mono ?_
  rintro e w3 ⟨rfl, hb3⟩
  replace D0 := cell_kept D0 hb3
  replace D1 := cell_kept D1 hb3
  replace D2 := cell_kept D2 hb3
  replace D3 := cell_kept D3 hb3
  replace D4 := cell_kept D4 hb3
  replace D5 := cell_kept D5 hb3
  replace D6 := cell_kept D6 hb3
  replace HR := Lib.hid (HR.out.below hb3)
  replace HP := Lib.hid (HP.out.below hb3)
  replace hB := hB.trans (hb3.mono hB.size)
  clear hb3
  go_wp2_with fail
  refine (known_yes x0 y0 x1 y1 s A c zs B k ps _ HR hl hn HP hy pok hF hkn).mono ?_
  rintro e w4 ⟨rfl, hb4⟩
  replace D0 := cell_kept D0 hb4
  replace D1 := cell_kept D1 hb4
  replace D2 := cell_kept D2 hb4
  replace D3 := cell_kept D3 hb4
  replace D4 := cell_kept D4 hb4
  replace D5 := cell_kept D5 hb4
  replace D6 := cell_kept D6 hb4
  replace HR := Lib.hid (HR.out.below hb4)
  replace HP := Lib.hid (HP.out.below hb4)
  replace hB := hB.trans (hb4.mono hB.size)
  clear hb4
  go_wp2
  go_ret
  exact ⟨by simp, hB⟩

set_option maxRecDepth 100000 in
set_option maxHeartbeats 6000000 in
theorem opq_fit (x0 y0 x1 y1 s : Int) (A : Option Addr) (c : Nat) (zs : List Int) (B : Option Addr) (k : Nat) (ps : List (Int × Int × Int × Int)) (w : World) (hr : Hid (Reads w A zs)) (hl : Small zs) (hn : Hid (A = none → c = 0)) (pr : Hid (PReads w B ps)) (hy : Hid (Bytes zs)) (pok : Hid (∀ p ∈ ps, 0 ≤ p.1 ∧ p.1 ≤ 65535 ∧ 0 ≤ p.2.1 ∧ p.2.1 ≤ 65535 ∧ 0 ≤ p.2.2.1 ∧ p.2.2.1 ≤ 65535 ∧ 0 ≤ p.2.2.2 ∧ p.2.2.2 ≤ 65535)) (hF : Hid (Fits x0 y0 x1 y1 s 1 zs.length)) (hE : Hid (¬ Empt x0 y0 x1 y1)) (hkn : Hid (Known x0 y0 x1 y1 s zs ps.length)) (pl : (ps.length : Int) ≤ 256) (wd ht : Nat) (HW : Hid (x1 - x0 = wd)) (HH : Hid (y1 - y0 = ht)) :
    Calls Try.prog 7 #[.agg #[.int .i64 x0, .int .i64 y0, .int .i64 x1, .int .i64 y1, .int .i64 s, .slice A zs.length c, .slice B ps.length k]] w fun e w' => e = .returned (.bool true) ∧ Below w.heap.size w w' := by
  obtain ⟨⟨⟨⟨f1, f2⟩, ⟨f3, f4⟩, ⟨f5, f6⟩, ⟨f7, f8⟩⟩, f9, f10, _⟩, _⟩ := id hF.out
  have hB : Below w.heap.size w (w.alloc (.cells #[.int .i64 x0, .int .i64 y0, .int .i64 x1, .int .i64 y1, .int .i64 s, .slice A zs.length c, .slice B ps.length k] 27)) := (Below.refl _ _).alloc (Nat.le_refl _) _
  have D0 : (w.alloc (.cells #[.int .i64 x0, .int .i64 y0, .int .i64 x1, .int .i64 y1, .int .i64 s, .slice A zs.length c, .slice B ps.length k] 27)).cell? ⟨w.heap.size, 0, none⟩ = some (.int .i64 x0) := by first | (simp; done) | go_simp
  have D1 : (w.alloc (.cells #[.int .i64 x0, .int .i64 y0, .int .i64 x1, .int .i64 y1, .int .i64 s, .slice A zs.length c, .slice B ps.length k] 27)).cell? ⟨w.heap.size, 1, none⟩ = some (.int .i64 y0) := by first | (simp; done) | go_simp
  have D2 : (w.alloc (.cells #[.int .i64 x0, .int .i64 y0, .int .i64 x1, .int .i64 y1, .int .i64 s, .slice A zs.length c, .slice B ps.length k] 27)).cell? ⟨w.heap.size, 2, none⟩ = some (.int .i64 x1) := by first | (simp; done) | go_simp
  have D3 : (w.alloc (.cells #[.int .i64 x0, .int .i64 y0, .int .i64 x1, .int .i64 y1, .int .i64 s, .slice A zs.length c, .slice B ps.length k] 27)).cell? ⟨w.heap.size, 3, none⟩ = some (.int .i64 y1) := by first | (simp; done) | go_simp
  have D4 : (w.alloc (.cells #[.int .i64 x0, .int .i64 y0, .int .i64 x1, .int .i64 y1, .int .i64 s, .slice A zs.length c, .slice B ps.length k] 27)).cell? ⟨w.heap.size, 4, none⟩ = some (.int .i64 s) := by first | (simp; done) | go_simp
  have D5 : (w.alloc (.cells #[.int .i64 x0, .int .i64 y0, .int .i64 x1, .int .i64 y1, .int .i64 s, .slice A zs.length c, .slice B ps.length k] 27)).cell? ⟨w.heap.size, 5, none⟩ = some (.slice A zs.length c) := by first | (simp; done) | go_simp
  have D6 : (w.alloc (.cells #[.int .i64 x0, .int .i64 y0, .int .i64 x1, .int .i64 y1, .int .i64 s, .slice A zs.length c, .slice B ps.length k] 27)).cell? ⟨w.heap.size, 6, none⟩ = some (.slice B ps.length k) := by first | (simp; done) | go_simp
  have HR := Lib.hid (hr.out.below hB)
  have HP := Lib.hid (pr.out.below hB)
  go_enter Try.func7, Try.ntmps7
  go_wp2_with fail
  generalize w.alloc (.cells #[.int .i64 x0, .int .i64 y0, .int .i64 x1, .int .i64 y1, .int .i64 s, .slice A zs.length c, .slice B ps.length k] 27) = W0 at *
  go_wp2_with fail
  refine (fitsK_any x0 y0 x1 y1 s A c zs B k ps true (by simp [hF.out]) _).mono ?_
  rintro e w1 ⟨rfl, hb1⟩
  replace D0 := cell_kept D0 hb1
  replace D1 := cell_kept D1 hb1
  replace D2 := cell_kept D2 hb1
  replace D3 := cell_kept D3 hb1
  replace D4 := cell_kept D4 hb1
  replace D5 := cell_kept D5 hb1
  replace D6 := cell_kept D6 hb1
  replace HR := Lib.hid (HR.out.below hb1)
  replace HP := Lib.hid (HP.out.below hb1)
  replace hB := hB.trans (hb1.mono hB.size)
  clear hb1
  go_wp2_with fail
  refine (box_any x0 y0 x1 y1 _).mono ?_
  rintro e w2 ⟨rfl, hb2⟩
  replace D0 := cell_kept D0 hb2
  replace D1 := cell_kept D1 hb2
  replace D2 := cell_kept D2 hb2
  replace D3 := cell_kept D3 hb2
  replace D4 := cell_kept D4 hb2
  replace D5 := cell_kept D5 hb2
  replace D6 := cell_kept D6 hb2
  replace HR := Lib.hid (HR.out.below hb2)
  replace HP := Lib.hid (HP.out.below hb2)
  replace hB := hB.trans (hb2.mono hB.size)
  clear hb2
  go_wp2_with fail
  refine (empt_any x0 y0 x1 y1 false (by simp [hE.out]) _).mono ?_
  rintro e w3 ⟨rfl, hb3⟩
  replace D0 := cell_kept D0 hb3
  replace D1 := cell_kept D1 hb3
  replace D2 := cell_kept D2 hb3
  replace D3 := cell_kept D3 hb3
  replace D4 := cell_kept D4 hb3
  replace D5 := cell_kept D5 hb3
  replace D6 := cell_kept D6 hb3
  replace HR := Lib.hid (HR.out.below hb3)
  replace HP := Lib.hid (HP.out.below hb3)
  replace hB := hB.trans (hb3.mono hB.size)
  clear hb3
  go_wp2_with fail
  refine (known_yes x0 y0 x1 y1 s A c zs B k ps _ HR hl hn HP hy pok hF hkn).mono ?_
  rintro e w4 ⟨rfl, hb4⟩
  replace D0 := cell_kept D0 hb4
  replace D1 := cell_kept D1 hb4
  replace D2 := cell_kept D2 hb4
  replace D3 := cell_kept D3 hb4
  replace D4 := cell_kept D4 hb4
  replace D5 := cell_kept D5 hb4
  replace D6 := cell_kept D6 hb4
  replace HR := Lib.hid (HR.out.below hb4)
  replace HP := Lib.hid (HP.out.below hb4)
  replace hB := hB.trans (hb4.mono hB.size)
  clear hb4
  have HS : Hid (Below w.heap.size w w4 ∧ w4.cell? ⟨w.heap.size, 0, none⟩ = some (.int .i64 x0) ∧ w4.cell? ⟨w.heap.size, 1, none⟩ = some (.int .i64 y0) ∧ w4.cell? ⟨w.heap.size, 2, none⟩ = some (.int .i64 x1) ∧ w4.cell? ⟨w.heap.size, 3, none⟩ = some (.int .i64 y1) ∧ w4.cell? ⟨w.heap.size, 4, none⟩ = some (.int .i64 s) ∧ w4.cell? ⟨w.heap.size, 5, none⟩ = some (.slice A zs.length c) ∧ w4.cell? ⟨w.heap.size, 6, none⟩ = some (.slice B ps.length k)) := ⟨hB, D0, D1, D2, D3, D4, D5, D6⟩
  clear HR HP
  go_wp2
  go_loopw [3, 4] (fun al y wr => ∃ (i : Nat) (a : Bool) (e : Int), i ≤ ht ∧ al = .bool a ∧ y = .int .i64 e ∧ Hid (e = y0 + i) ∧ Hid (a = allN (rowA zs ps s wd) i) ∧ Hid (Below w.heap.size w wr ∧ wr.cell? ⟨w.heap.size, 0, none⟩ = some (.int .i64 x0) ∧ wr.cell? ⟨w.heap.size, 1, none⟩ = some (.int .i64 y0) ∧ wr.cell? ⟨w.heap.size, 2, none⟩ = some (.int .i64 x1) ∧ wr.cell? ⟨w.heap.size, 3, none⟩ = some (.int .i64 y1) ∧ wr.cell? ⟨w.heap.size, 4, none⟩ = some (.int .i64 s) ∧ wr.cell? ⟨w.heap.size, 5, none⟩ = some (.slice A zs.length c) ∧ wr.cell? ⟨w.heap.size, 6, none⟩ = some (.slice B ps.length k))) (fun _ y _ => (y1 - intOf y).toNat)
  case atStart => exact ⟨0, true, y0, Nat.zero_le _, rfl, rfl, show Hid _ from (by unfold Hid; omega), show Hid _ from rfl, HS⟩
  case round =>
    obtain ⟨i, a0, e, hi, rfl, rfl, HEe, HAa, KR⟩ := hrel
    clear HS D0 D1 D2 D3 D4 D5 D6 hB
    obtain ⟨hB, D0, D1, D2, D3, D4, D5, D6⟩ := id KR.out
    obtain ⟨e1, e2⟩ : y0 ≤ e ∧ e ≤ y1 := by have := HEe.out; have := HH.out; omega
    by_cases hlt : e < y1
    · go_wp2
      go_loopw [3, 5] (fun al x wr => ∃ (j : Nat) (a : Bool) (u : Int), j ≤ wd ∧ al = .bool a ∧ x = .int .i64 u ∧ Hid (u = x0 + j) ∧ Hid (a = (allN (rowA zs ps s wd) i && allN (fun j => alphaB ps (pixN zs s i j)) j)) ∧ Hid (Below w.heap.size w wr ∧ wr.cell? ⟨w.heap.size, 0, none⟩ = some (.int .i64 x0) ∧ wr.cell? ⟨w.heap.size, 1, none⟩ = some (.int .i64 y0) ∧ wr.cell? ⟨w.heap.size, 2, none⟩ = some (.int .i64 x1) ∧ wr.cell? ⟨w.heap.size, 3, none⟩ = some (.int .i64 y1) ∧ wr.cell? ⟨w.heap.size, 4, none⟩ = some (.int .i64 s) ∧ wr.cell? ⟨w.heap.size, 5, none⟩ = some (.slice A zs.length c) ∧ wr.cell? ⟨w.heap.size, 6, none⟩ = some (.slice B ps.length k))) (fun _ x _ => (x1 - intOf x).toNat)
      case atStart => exact ⟨0, a0, x0, Nat.zero_le _, rfl, rfl, show Hid _ from (by unfold Hid; omega), show Hid _ from (by unfold Hid; rw [HAa.out, allN, Bool.and_true]), KR⟩
      case round =>
        obtain ⟨j, a, u, hj, rfl, rfl, HU, HPP, KR'⟩ := hrel
        clear KR D0 D1 D2 D3 D4 D5 D6 hB
        have KR := KR'
        clear KR'
        obtain ⟨hB, D0, D1, D2, D3, D4, D5, D6⟩ := id KR.out
        obtain ⟨u1, u2⟩ : x0 ≤ u ∧ u ≤ x1 := by have := HU.out; have := HW.out; omega
        by_cases hjl : u < x1
        · have hI : Insd x0 y0 x1 y1 u e := ⟨u1, hjl, e1, hlt⟩
          obtain ⟨b1, b2, b3, b4⟩ : -4398046511104 ≤ e - y0 ∧ e - y0 ≤ 4398046511104 ∧ -4398046511104 ≤ u - x0 ∧ u - x0 ≤ 4398046511104 := near_point hF.out hI
          obtain ⟨p1, p2⟩ : -2305843009213693952 ≤ (e - y0) * s ∧ (e - y0) * s ≤ 2305843009213693952 := (by have := hF.out.prods hI; omega)
          obtain ⟨m, hK, hk⟩ := hF.out.place (z := 1) rfl hI
          rw [Int.mul_one] at hK
          have HK := Lib.hid hK
          obtain ⟨b, o, rfl⟩ := hr.out.addr (by omega)
          have q0 := (hr.out.below hB).cell (j := m) (by omega)
          have hby := hy.out.get m
          obtain ⟨cx, hcx⟩ : ∃ cx : Nat, zs.getD m 0 = (cx : Int) := ⟨(zs.getD m 0).toNat, by omega⟩
          rw [hcx] at q0 hby
          have i0 : (0 : Int) ≤ (m : Int) := by omega
          have i1 : (m : Int) < (zs.length : Int) := by omega
          have hwc : IntKind.i64.wrap (cx : Int) = (cx : Int) := IntWalk.i64_in _ (by omega)
          have hlt2 : (cx : Int) < (ps.length : Int) := by have h := hkn.out u e hI; rw [hK, Int.toNat_natCast, hcx] at h; exact h
          have hcxl : cx < ps.length := by omega
          obtain ⟨bp, op, rfl⟩ := pr.out.addr (by omega)
          have qp := (pr.out.below hB).cell hcxl 3 _ rfl
          have HQ : Hid (alphaB ps (pixN zs s i j) = decide ((ps.getD cx noCol).2.2.2 = 65535)) := by
            have h : pixN zs s i j = cx := by
              unfold pixN
              rw [show (i : Int) * s + (j : Int) = m from by rw [← hK, show e - y0 = i by have := HEe.out; omega, show u - x0 = j by have := HU.out; omega], Int.toNat_natCast, hcx, Int.toNat_natCast]
            unfold Hid alphaB
            rw [h]
          generalize (ps.getD cx noCol).2.2.2 = al at qp HQ
          have hjw : j < wd := by have := HU.out; have := HW.out; omega
          have ic0 : (0 : Int) ≤ (cx : Int) := by omega
          clear hcx hK hk hby
          cases a
          case true =>
            go_wp2_with fail
            have P0 : Below wr.heap.size wr wr.drew := (Below.refl _ _).drew
            have toS : ∀ W' : World, Below wr.heap.size wr W' → (W'.cell? ⟨w.heap.size, 0, none⟩ = some (.int .i64 x0) ∧ W'.cell? ⟨w.heap.size, 1, none⟩ = some (.int .i64 y0) ∧ W'.cell? ⟨w.heap.size, 2, none⟩ = some (.int .i64 x1) ∧ W'.cell? ⟨w.heap.size, 3, none⟩ = some (.int .i64 y1) ∧ W'.cell? ⟨w.heap.size, 4, none⟩ = some (.int .i64 s) ∧ W'.cell? ⟨w.heap.size, 5, none⟩ = some (.slice (some ⟨b, o, none⟩) zs.length c) ∧ W'.cell? ⟨w.heap.size, 6, none⟩ = some (.slice (some ⟨bp, op, none⟩) ps.length k) ∧ W'.cell? ⟨b, o + m, none⟩ = some (.int .u8 cx) ∧ W'.cell? ⟨bp, op + cx * 4 + 3, none⟩ = some (.int .u16 al)) := fun W' h => ⟨cell_kept D0 h, cell_kept D1 h, cell_kept D2 h, cell_kept D3 h, cell_kept D4 h, cell_kept D5 h, cell_kept D6 h, cell_kept q0 h, cell_kept qp h⟩
            have TOS := Lib.hid toS
            clear toS
            have hzN := hB.size
            refine wp_region_held_drew (S := fun w' => w'.cell? ⟨w.heap.size, 0, none⟩ = some (.int .i64 x0) ∧ w'.cell? ⟨w.heap.size, 1, none⟩ = some (.int .i64 y0) ∧ w'.cell? ⟨w.heap.size, 2, none⟩ = some (.int .i64 x1) ∧ w'.cell? ⟨w.heap.size, 3, none⟩ = some (.int .i64 y1) ∧ w'.cell? ⟨w.heap.size, 4, none⟩ = some (.int .i64 s) ∧ w'.cell? ⟨w.heap.size, 5, none⟩ = some (.slice (some ⟨b, o, none⟩) zs.length c) ∧ w'.cell? ⟨w.heap.size, 6, none⟩ = some (.slice (some ⟨bp, op, none⟩) ps.length k) ∧ w'.cell? ⟨b, o + m, none⟩ = some (.int .u8 cx) ∧ w'.cell? ⟨bp, op + cx * 4 + 3, none⟩ = some (.int .u16 al)) (by kernel_rfl) ?_ (fun hHeld => ?_)
            · (first | (refine TOS.out _ ?_; first | with_reducible exact P1 | with_reducible exact P0))
            refine wpAnyH_take (i := 0) (oi := _) (v := ?vr4_0) rfl (by kernel_rfl) (by kernel_rfl) (by kernel_rfl) (fun _ _ _ h => h) (Or.inl ⟨by rfl, ?hyr4_0⟩) (by assumption) ?restr4_0
            case hyr4_0 => (intro w hSw; (try dsimp only at hSw); go_simp <;> with_reducible rfl)
            try simp only [Act.put, List.getElem_toArray, List.getElem_cons_succ, List.getElem_cons_zero, List.setIfInBounds_toArray, List.set_cons_zero, List.set_cons_succ]
            refine wpAnyH_take (i := 1) (oi := _) (v := ?vr4_1) rfl (by kernel_rfl) (by kernel_rfl) (by kernel_rfl) (fun _ _ _ h => h) (Or.inl ⟨by rfl, ?hyr4_1⟩) (by assumption) ?restr4_1
            case hyr4_1 => (intro w hSw; (try dsimp only at hSw); go_simp <;> with_reducible rfl)
            try simp only [Act.put, List.getElem_toArray, List.getElem_cons_succ, List.getElem_cons_zero, List.setIfInBounds_toArray, List.set_cons_zero, List.set_cons_succ]
            refine wpAnyH_take (i := 2) (oi := _) (v := ?vr4_2) rfl (by kernel_rfl) (by kernel_rfl) (by kernel_rfl) (fun _ _ _ h => h) (Or.inl ⟨by rfl, ?hyr4_2⟩) (by assumption) ?restr4_2
            case hyr4_2 => (intro w hSw; (try dsimp only at hSw); go_simp <;> with_reducible rfl)
            try simp only [Act.put, List.getElem_toArray, List.getElem_cons_succ, List.getElem_cons_zero, List.setIfInBounds_toArray, List.set_cons_zero, List.set_cons_succ]
            refine wpAnyH_take (i := 3) (oi := _) (v := ?vr4_3) rfl (by kernel_rfl) (by kernel_rfl) (by kernel_rfl) (fun _ _ _ h => h) (Or.inl ⟨by rfl, ?hyr4_3⟩) (by assumption) ?restr4_3
            case hyr4_3 => (intro w hSw; (try dsimp only at hSw); go_simp <;> with_reducible rfl)
            try simp only [Act.put, List.getElem_toArray, List.getElem_cons_succ, List.getElem_cons_zero, List.setIfInBounds_toArray, List.set_cons_zero, List.set_cons_succ]
            refine wpAnyH_take (i := 4) (oi := _) (v := ?vr4_4) rfl (by kernel_rfl) (by kernel_rfl) (by kernel_rfl) (fun _ _ _ h => h) (Or.inl ⟨by rfl, ?hyr4_4⟩) (by assumption) ?restr4_4
            case hyr4_4 => (intro w hSw; (try dsimp only at hSw); go_simp <;> with_reducible rfl)
            try simp only [Act.put, List.getElem_toArray, List.getElem_cons_succ, List.getElem_cons_zero, List.setIfInBounds_toArray, List.set_cons_zero, List.set_cons_succ]
            refine wpAnyH_take (i := 5) (oi := _) (v := ?vr4_5) rfl (by kernel_rfl) (by kernel_rfl) (by kernel_rfl) (fun _ _ _ h => h) (Or.inl ⟨by rfl, ?hyr4_5⟩) (by assumption) ?restr4_5
            case hyr4_5 => (intro w hSw; (try dsimp only at hSw); go_simp <;> with_reducible rfl)
            try simp only [Act.put, List.getElem_toArray, List.getElem_cons_succ, List.getElem_cons_zero, List.setIfInBounds_toArray, List.set_cons_zero, List.set_cons_succ]
            refine wpAnyH_take (i := 6) (oi := _) (v := ?vr4_6) rfl (by kernel_rfl) (by kernel_rfl) (by kernel_rfl) (fun _ _ _ h => h) (Or.inl ⟨by rfl, ?hyr4_6⟩) (by assumption) ?restr4_6
            case hyr4_6 => (intro w hSw; (try dsimp only at hSw); go_simp <;> with_reducible rfl)
            try simp only [Act.put, List.getElem_toArray, List.getElem_cons_succ, List.getElem_cons_zero, List.setIfInBounds_toArray, List.set_cons_zero, List.set_cons_succ]
            refine wpAnyH_take (i := 7) (oi := _) (v := ?vr4_7) rfl (by kernel_rfl) (by kernel_rfl) (by kernel_rfl) (fun _ _ _ h => h) (Or.inl ⟨by rfl, ?hyr4_7⟩) (by assumption) ?restr4_7
            case hyr4_7 => (intro w hSw; (try dsimp only at hSw); go_simp <;> with_reducible rfl)
            try simp only [Act.put, List.getElem_toArray, List.getElem_cons_succ, List.getElem_cons_zero, List.setIfInBounds_toArray, List.set_cons_zero, List.set_cons_succ]
            refine wpAnyH_take (i := 8) (oi := _) (v := ?vr4_8) rfl (by kernel_rfl) (by kernel_rfl) (by kernel_rfl) (fun _ _ _ h => h) (Or.inl ⟨by rfl, ?hyr4_8⟩) (by assumption) ?restr4_8
            case hyr4_8 => (intro w hSw; (try dsimp only at hSw); go_simp <;> with_reducible rfl)
            try simp only [Act.put, List.getElem_toArray, List.getElem_cons_succ, List.getElem_cons_zero, List.setIfInBounds_toArray, List.set_cons_zero, List.set_cons_succ]
            refine wpAnyH_ready (rs := [9]) (by kernel_rfl) (by simp) ?_
            refine AllReadyH.cons (o := _) rfl (fun K hK => ?_) AllReadyH.nil
            go_simp
            (go_at_call 18; refine (atK_any x0 y0 x1 y1 s _ c zs _ k ps u e _ b1 b2 b3 b4 p1 p2).mono ?_; rintro e v1' ⟨rfl, hq1⟩; rw [HK.out]; have P1 : Below wr.heap.size wr v1' := P0.trans (hq1.mono P0.size))
            refine hK.out _ _ ?_ (fun hHeld => ?_)
            · (first | (refine TOS.out _ ?_; first | with_reducible exact P1 | with_reducible exact P0))
            clear hK K
            try simp only [Act.put, List.getElem_toArray, List.getElem_cons_succ, List.getElem_cons_zero, List.setIfInBounds_toArray, List.set_cons_zero, List.set_cons_succ]
            refine wpAnyH_take (i := 10) (oi := _) (v := ?vr4_10) rfl (by kernel_rfl) (by kernel_rfl) (by kernel_rfl) (fun _ _ _ h => h) (Or.inl ⟨by rfl, ?hyr4_10⟩) (by assumption) ?restr4_10
            case hyr4_10 => (intro w hSw; (try dsimp only at hSw); go_simp <;> with_reducible rfl)
            try simp only [Act.put, List.getElem_toArray, List.getElem_cons_succ, List.getElem_cons_zero, List.setIfInBounds_toArray, List.set_cons_zero, List.set_cons_succ]
            refine wpAnyH_take (i := 11) (oi := _) (v := ?vr4_11) rfl (by kernel_rfl) (by kernel_rfl) (by kernel_rfl) (fun _ _ _ h => h) (Or.inl ⟨by rfl, ?hyr4_11⟩) (by assumption) ?restr4_11
            case hyr4_11 => (intro w hSw; (try dsimp only at hSw); go_simp <;> with_reducible rfl)
            try simp only [Act.put, List.getElem_toArray, List.getElem_cons_succ, List.getElem_cons_zero, List.setIfInBounds_toArray, List.set_cons_zero, List.set_cons_succ]
            refine wpAnyH_take (i := 12) (oi := _) (v := ?vr4_12) rfl (by kernel_rfl) (by kernel_rfl) (by kernel_rfl) (fun _ _ _ h => h) (Or.inl ⟨by rfl, ?hyr4_12⟩) (by assumption) ?restr4_12
            case hyr4_12 => (intro w hSw; (try dsimp only at hSw); go_simp <;> with_reducible rfl)
            try simp only [Act.put, List.getElem_toArray, List.getElem_cons_succ, List.getElem_cons_zero, List.setIfInBounds_toArray, List.set_cons_zero, List.set_cons_succ]
            refine wpAnyH_take (i := 13) (oi := _) (v := ?vr4_13) rfl (by kernel_rfl) (by kernel_rfl) (by kernel_rfl) (fun _ _ _ h => h) (Or.inl ⟨by rfl, ?hyr4_13⟩) (by assumption) ?restr4_13
            case hyr4_13 => (intro w hSw; (try dsimp only at hSw); go_simp <;> with_reducible rfl)
            try simp only [Act.put, List.getElem_toArray, List.getElem_cons_succ, List.getElem_cons_zero, List.setIfInBounds_toArray, List.set_cons_zero, List.set_cons_succ]
            refine wpAnyH_take (i := 14) (oi := _) (v := ?vr4_14) rfl (by kernel_rfl) (by kernel_rfl) (by kernel_rfl) (fun _ _ _ h => h) (Or.inl ⟨by rfl, ?hyr4_14⟩) (by assumption) ?restr4_14
            case hyr4_14 => (intro w hSw; (try dsimp only at hSw); go_simp <;> with_reducible rfl)
            try simp only [Act.put, List.getElem_toArray, List.getElem_cons_succ, List.getElem_cons_zero, List.setIfInBounds_toArray, List.set_cons_zero, List.set_cons_succ]
            refine wpAnyH_take (i := 15) (oi := _) (v := ?vr4_15) rfl (by kernel_rfl) (by kernel_rfl) (by kernel_rfl) (fun _ _ _ h => h) (Or.inl ⟨by rfl, ?hyr4_15⟩) (by assumption) ?restr4_15
            case hyr4_15 => (intro w hSw; (try dsimp only at hSw); go_simp <;> with_reducible rfl)
            try simp only [Act.put, List.getElem_toArray, List.getElem_cons_succ, List.getElem_cons_zero, List.setIfInBounds_toArray, List.set_cons_zero, List.set_cons_succ]
            refine wpAnyH_take (i := 16) (oi := _) (v := ?vr4_16) rfl (by kernel_rfl) (by kernel_rfl) (by kernel_rfl) (fun _ _ _ h => h) (Or.inl ⟨by rfl, ?hyr4_16⟩) (by assumption) ?restr4_16
            case hyr4_16 => (intro w hSw; (try dsimp only at hSw); go_simp <;> with_reducible rfl)
            try simp only [Act.put, List.getElem_toArray, List.getElem_cons_succ, List.getElem_cons_zero, List.setIfInBounds_toArray, List.set_cons_zero, List.set_cons_succ]
            refine wpAnyH_take (i := 17) (oi := _) (v := ?vr4_17) rfl (by kernel_rfl) (by kernel_rfl) (by kernel_rfl) (fun _ _ _ h => h) (Or.inl ⟨by rfl, ?hyr4_17⟩) (by assumption) ?restr4_17
            case hyr4_17 => (intro w hSw; (try dsimp only at hSw); go_simp <;> with_reducible rfl)
            try simp only [Act.put, List.getElem_toArray, List.getElem_cons_succ, List.getElem_cons_zero, List.setIfInBounds_toArray, List.set_cons_zero, List.set_cons_succ]
            refine wpAnyH_done (by kernel_rfl) ?_ _
            have T1 : Hid (Below w.heap.size w v1' ∧ v1'.cell? ⟨w.heap.size, 0, none⟩ = some (.int .i64 x0) ∧ v1'.cell? ⟨w.heap.size, 1, none⟩ = some (.int .i64 y0) ∧ v1'.cell? ⟨w.heap.size, 2, none⟩ = some (.int .i64 x1) ∧ v1'.cell? ⟨w.heap.size, 3, none⟩ = some (.int .i64 y1) ∧ v1'.cell? ⟨w.heap.size, 4, none⟩ = some (.int .i64 s) ∧ v1'.cell? ⟨w.heap.size, 5, none⟩ = some (.slice (some ⟨b, o, none⟩) zs.length c) ∧ v1'.cell? ⟨w.heap.size, 6, none⟩ = some (.slice (some ⟨bp, op, none⟩) ps.length k)) := by
              obtain ⟨k0, k1, k2, k3, k4, k5, k6, _⟩ := TOS.out _ P1
              exact ⟨hB.trans (P1.mono hzN), k0, k1, k2, k3, k4, k5, k6⟩
            clear TOS hHeld D0 D1 D2 D3 D4 D5 D6 P0 P1 hq1
            by_cases h3 : al = 65535
            · subst h3
              have HQ : Hid (alphaB ps (pixN zs s i j) = true) := by unfold Hid; rw [HQ.out]; rfl
              go_wp2
              go_roundw
              case rel => exact ⟨j + 1, _, u + 1, by omega, rfl, by go_num, show Hid _ from (by unfold Hid; have := HU.out; omega), show Hid _ from (by unfold Hid; rw [allN, ← Bool.and_assoc, ← HPP.out, HQ.out]; first | rfl | simp [h3a]), T1⟩
              case measure => simp [intOf]; omega
            · have HQ : Hid (alphaB ps (pixN zs s i j) = false) := by unfold Hid; rw [HQ.out]; simp [h3]
              have h3a : (al == 65535) = false := by simpa using h3
              have h3b : (al != 65535) = true := by simpa using h3
              go_wp2
              go_roundw
              case rel => exact ⟨j + 1, _, u + 1, by omega, rfl, by go_num, show Hid _ from (by unfold Hid; have := HU.out; omega), show Hid _ from (by unfold Hid; rw [allN, ← Bool.and_assoc, ← HPP.out, HQ.out]; first | rfl | simp [h3a]), T1⟩
              case measure => simp [intOf]; omega
          case false =>
            go_wp2_with fail
            have P0 : Below wr.heap.size wr wr.drew := (Below.refl _ _).drew
            have toS : ∀ W' : World, Below wr.heap.size wr W' → (W'.cell? ⟨w.heap.size, 0, none⟩ = some (.int .i64 x0) ∧ W'.cell? ⟨w.heap.size, 1, none⟩ = some (.int .i64 y0) ∧ W'.cell? ⟨w.heap.size, 2, none⟩ = some (.int .i64 x1) ∧ W'.cell? ⟨w.heap.size, 3, none⟩ = some (.int .i64 y1) ∧ W'.cell? ⟨w.heap.size, 4, none⟩ = some (.int .i64 s) ∧ W'.cell? ⟨w.heap.size, 5, none⟩ = some (.slice (some ⟨b, o, none⟩) zs.length c) ∧ W'.cell? ⟨w.heap.size, 6, none⟩ = some (.slice (some ⟨bp, op, none⟩) ps.length k) ∧ W'.cell? ⟨b, o + m, none⟩ = some (.int .u8 cx) ∧ W'.cell? ⟨bp, op + cx * 4 + 3, none⟩ = some (.int .u16 al)) := fun W' h => ⟨cell_kept D0 h, cell_kept D1 h, cell_kept D2 h, cell_kept D3 h, cell_kept D4 h, cell_kept D5 h, cell_kept D6 h, cell_kept q0 h, cell_kept qp h⟩
            have TOS := Lib.hid toS
            clear toS
            have hzN := hB.size
            refine wp_region_held_drew (S := fun w' => w'.cell? ⟨w.heap.size, 0, none⟩ = some (.int .i64 x0) ∧ w'.cell? ⟨w.heap.size, 1, none⟩ = some (.int .i64 y0) ∧ w'.cell? ⟨w.heap.size, 2, none⟩ = some (.int .i64 x1) ∧ w'.cell? ⟨w.heap.size, 3, none⟩ = some (.int .i64 y1) ∧ w'.cell? ⟨w.heap.size, 4, none⟩ = some (.int .i64 s) ∧ w'.cell? ⟨w.heap.size, 5, none⟩ = some (.slice (some ⟨b, o, none⟩) zs.length c) ∧ w'.cell? ⟨w.heap.size, 6, none⟩ = some (.slice (some ⟨bp, op, none⟩) ps.length k) ∧ w'.cell? ⟨b, o + m, none⟩ = some (.int .u8 cx) ∧ w'.cell? ⟨bp, op + cx * 4 + 3, none⟩ = some (.int .u16 al)) (by kernel_rfl) ?_ (fun hHeld => ?_)
            · (first | (refine TOS.out _ ?_; first | with_reducible exact P0))
            refine wpAnyH_take (i := 0) (oi := _) (v := ?vr5_0) rfl (by kernel_rfl) (by kernel_rfl) (by kernel_rfl) (fun _ _ _ h => h) (Or.inl ⟨by rfl, ?hyr5_0⟩) (by assumption) ?restr5_0
            case hyr5_0 => (intro w hSw; (try dsimp only at hSw); go_simp <;> with_reducible rfl)
            try simp only [Act.put, List.getElem_toArray, List.getElem_cons_succ, List.getElem_cons_zero, List.setIfInBounds_toArray, List.set_cons_zero, List.set_cons_succ]
            refine wpAnyH_take (i := 1) (oi := _) (v := ?vr5_1) rfl (by kernel_rfl) (by kernel_rfl) (by kernel_rfl) (fun _ _ _ h => h) (Or.inl ⟨by rfl, ?hyr5_1⟩) (by assumption) ?restr5_1
            case hyr5_1 => (intro w hSw; (try dsimp only at hSw); go_simp <;> with_reducible rfl)
            try simp only [Act.put, List.getElem_toArray, List.getElem_cons_succ, List.getElem_cons_zero, List.setIfInBounds_toArray, List.set_cons_zero, List.set_cons_succ]
            refine wpAnyH_take (i := 2) (oi := _) (v := undef) rfl (by kernel_rfl) (by kernel_rfl) (by kernel_rfl) (fun _ _ _ h => h) (Or.inr ⟨by rfl, rfl⟩) (by assumption) ?_
            try simp only [Act.put, List.getElem_toArray, List.getElem_cons_succ, List.getElem_cons_zero, List.setIfInBounds_toArray, List.set_cons_zero, List.set_cons_succ]
            refine wpAnyH_take (i := 3) (oi := _) (v := undef) rfl (by kernel_rfl) (by kernel_rfl) (by kernel_rfl) (fun _ _ _ h => h) (Or.inr ⟨by rfl, rfl⟩) (by assumption) ?_
            try simp only [Act.put, List.getElem_toArray, List.getElem_cons_succ, List.getElem_cons_zero, List.setIfInBounds_toArray, List.set_cons_zero, List.set_cons_succ]
            refine wpAnyH_take (i := 4) (oi := _) (v := undef) rfl (by kernel_rfl) (by kernel_rfl) (by kernel_rfl) (fun _ _ _ h => h) (Or.inr ⟨by rfl, rfl⟩) (by assumption) ?_
            try simp only [Act.put, List.getElem_toArray, List.getElem_cons_succ, List.getElem_cons_zero, List.setIfInBounds_toArray, List.set_cons_zero, List.set_cons_succ]
            refine wpAnyH_take (i := 5) (oi := _) (v := undef) rfl (by kernel_rfl) (by kernel_rfl) (by kernel_rfl) (fun _ _ _ h => h) (Or.inr ⟨by rfl, rfl⟩) (by assumption) ?_
            try simp only [Act.put, List.getElem_toArray, List.getElem_cons_succ, List.getElem_cons_zero, List.setIfInBounds_toArray, List.set_cons_zero, List.set_cons_succ]
            refine wpAnyH_take (i := 6) (oi := _) (v := undef) rfl (by kernel_rfl) (by kernel_rfl) (by kernel_rfl) (fun _ _ _ h => h) (Or.inr ⟨by rfl, rfl⟩) (by assumption) ?_
            try simp only [Act.put, List.getElem_toArray, List.getElem_cons_succ, List.getElem_cons_zero, List.setIfInBounds_toArray, List.set_cons_zero, List.set_cons_succ]
            refine wpAnyH_take (i := 7) (oi := _) (v := undef) rfl (by kernel_rfl) (by kernel_rfl) (by kernel_rfl) (fun _ _ _ h => h) (Or.inr ⟨by rfl, rfl⟩) (by assumption) ?_
            try simp only [Act.put, List.getElem_toArray, List.getElem_cons_succ, List.getElem_cons_zero, List.setIfInBounds_toArray, List.set_cons_zero, List.set_cons_succ]
            refine wpAnyH_take (i := 8) (oi := _) (v := undef) rfl (by kernel_rfl) (by kernel_rfl) (by kernel_rfl) (fun _ _ _ h => h) (Or.inr ⟨by rfl, rfl⟩) (by assumption) ?_
            try simp only [Act.put, List.getElem_toArray, List.getElem_cons_succ, List.getElem_cons_zero, List.setIfInBounds_toArray, List.set_cons_zero, List.set_cons_succ]
            refine wpAnyH_ready (rs := [9]) (by kernel_rfl) (by simp) ?_
            refine AllReadyH.cons (o := _) rfl (fun K hK => ?_) AllReadyH.nil
            go_simp
            refine hK.out _ _ ?_ (fun hHeld => ?_)
            · (first | (refine TOS.out _ ?_; first | with_reducible exact P0))
            clear hK K
            try simp only [Act.put, List.getElem_toArray, List.getElem_cons_succ, List.getElem_cons_zero, List.setIfInBounds_toArray, List.set_cons_zero, List.set_cons_succ]
            refine wpAnyH_take (i := 10) (oi := _) (v := undef) rfl (by kernel_rfl) (by kernel_rfl) (by kernel_rfl) (fun _ _ _ h => h) (Or.inr ⟨by rfl, rfl⟩) (by assumption) ?_
            try simp only [Act.put, List.getElem_toArray, List.getElem_cons_succ, List.getElem_cons_zero, List.setIfInBounds_toArray, List.set_cons_zero, List.set_cons_succ]
            refine wpAnyH_take (i := 11) (oi := _) (v := undef) rfl (by kernel_rfl) (by kernel_rfl) (by kernel_rfl) (fun _ _ _ h => h) (Or.inr ⟨by rfl, rfl⟩) (by assumption) ?_
            try simp only [Act.put, List.getElem_toArray, List.getElem_cons_succ, List.getElem_cons_zero, List.setIfInBounds_toArray, List.set_cons_zero, List.set_cons_succ]
            refine wpAnyH_take (i := 12) (oi := _) (v := undef) rfl (by kernel_rfl) (by kernel_rfl) (by kernel_rfl) (fun _ _ _ h => h) (Or.inr ⟨by rfl, rfl⟩) (by assumption) ?_
            try simp only [Act.put, List.getElem_toArray, List.getElem_cons_succ, List.getElem_cons_zero, List.setIfInBounds_toArray, List.set_cons_zero, List.set_cons_succ]
            refine wpAnyH_take (i := 13) (oi := _) (v := undef) rfl (by kernel_rfl) (by kernel_rfl) (by kernel_rfl) (fun _ _ _ h => h) (Or.inr ⟨by rfl, rfl⟩) (by assumption) ?_
            try simp only [Act.put, List.getElem_toArray, List.getElem_cons_succ, List.getElem_cons_zero, List.setIfInBounds_toArray, List.set_cons_zero, List.set_cons_succ]
            refine wpAnyH_take (i := 14) (oi := _) (v := undef) rfl (by kernel_rfl) (by kernel_rfl) (by kernel_rfl) (fun _ _ _ h => h) (Or.inr ⟨by rfl, rfl⟩) (by assumption) ?_
            try simp only [Act.put, List.getElem_toArray, List.getElem_cons_succ, List.getElem_cons_zero, List.setIfInBounds_toArray, List.set_cons_zero, List.set_cons_succ]
            refine wpAnyH_take (i := 15) (oi := _) (v := undef) rfl (by kernel_rfl) (by kernel_rfl) (by kernel_rfl) (fun _ _ _ h => h) (Or.inr ⟨by rfl, rfl⟩) (by assumption) ?_
            try simp only [Act.put, List.getElem_toArray, List.getElem_cons_succ, List.getElem_cons_zero, List.setIfInBounds_toArray, List.set_cons_zero, List.set_cons_succ]
            refine wpAnyH_take (i := 16) (oi := _) (v := ?vr5_16) rfl (by kernel_rfl) (by kernel_rfl) (by kernel_rfl) (fun _ _ _ h => h) (Or.inl ⟨by rfl, ?hyr5_16⟩) (by assumption) ?restr5_16
            case hyr5_16 => (intro w hSw; (try dsimp only at hSw); go_simp <;> with_reducible rfl)
            try simp only [Act.put, List.getElem_toArray, List.getElem_cons_succ, List.getElem_cons_zero, List.setIfInBounds_toArray, List.set_cons_zero, List.set_cons_succ]
            refine wpAnyH_take (i := 17) (oi := _) (v := ?vr5_17) rfl (by kernel_rfl) (by kernel_rfl) (by kernel_rfl) (fun _ _ _ h => h) (Or.inl ⟨by rfl, ?hyr5_17⟩) (by assumption) ?restr5_17
            case hyr5_17 => (intro w hSw; (try dsimp only at hSw); go_simp <;> with_reducible rfl)
            try simp only [Act.put, List.getElem_toArray, List.getElem_cons_succ, List.getElem_cons_zero, List.setIfInBounds_toArray, List.set_cons_zero, List.set_cons_succ]
            refine wpAnyH_done (by kernel_rfl) ?_ _
            have T1 : Hid (Below w.heap.size w wr.drew ∧ wr.drew.cell? ⟨w.heap.size, 0, none⟩ = some (.int .i64 x0) ∧ wr.drew.cell? ⟨w.heap.size, 1, none⟩ = some (.int .i64 y0) ∧ wr.drew.cell? ⟨w.heap.size, 2, none⟩ = some (.int .i64 x1) ∧ wr.drew.cell? ⟨w.heap.size, 3, none⟩ = some (.int .i64 y1) ∧ wr.drew.cell? ⟨w.heap.size, 4, none⟩ = some (.int .i64 s) ∧ wr.drew.cell? ⟨w.heap.size, 5, none⟩ = some (.slice (some ⟨b, o, none⟩) zs.length c) ∧ wr.drew.cell? ⟨w.heap.size, 6, none⟩ = some (.slice (some ⟨bp, op, none⟩) ps.length k)) := by
              obtain ⟨k0, k1, k2, k3, k4, k5, k6, _⟩ := TOS.out _ P0
              exact ⟨hB.trans (P0.mono hzN), k0, k1, k2, k3, k4, k5, k6⟩
            clear TOS hHeld D0 D1 D2 D3 D4 D5 D6 P0
            go_wp2
            go_roundw
            case rel => exact ⟨j + 1, _, u + 1, by omega, rfl, by go_num, show Hid _ from (by unfold Hid; have := HU.out; omega), show Hid _ from (by unfold Hid; rw [allN, ← Bool.and_assoc, ← HPP.out]; rfl), T1⟩
            case measure => simp [intOf]; omega
        · have HR1 : Hid (a = allN (rowA zs ps s wd) (i + 1)) := by
            unfold Hid; rw [HPP.out, allN, rowA, show wd = j by have := HU.out; have := HW.out; omega]
          clear HPP
          go_wp2
          go_roundw
          case rel => exact ⟨i + 1, a, e + 1, by have := HEe.out; have := HH.out; omega, rfl, by go_num, show Hid _ from (by unfold Hid; have := HEe.out; omega), HR1, KR⟩
          case measure => simp [intOf]; omega
    · have HX : Hid (allA zs ps s wd ht = a0) := by unfold Hid allA; rw [show ht = i by have := HEe.out; have := HH.out; omega]; exact HAa.out.symm
      clear HAa
      go_wp2_with fail
      refine (implOpaque_any x0 y0 x1 y1 s A c zs B k ps _ (hr.out.below hB) hl hn (pr.out.below hB) hy pok pl hF hE wd ht HW HH (hkn.out.pix hy.out HW.out HH.out) a0 HX).mono ?_
      rintro e w2 ⟨rfl, hb2⟩
      go_wp2
      go_ret
      exact ⟨by simp, hB.trans (hb2.mono hB.size)⟩

theorem walk_opaque (x0 y0 x1 y1 s : Int) (A : Option Addr) (c : Nat) (zs : List Int) (B : Option Addr) (k : Nat) (ps : List (Int × Int × Int × Int)) (w : World) (hr : Hid (Reads w A zs)) (hl : Small zs) (hn : Hid (A = none → c = 0)) (pr : Hid (PReads w B ps)) (hy : Hid (Bytes zs)) (pok : Hid (∀ p ∈ ps, 0 ≤ p.1 ∧ p.1 ≤ 65535 ∧ 0 ≤ p.2.1 ∧ p.2.1 ≤ 65535 ∧ 0 ≤ p.2.2.1 ∧ p.2.2.1 ≤ 65535 ∧ 0 ≤ p.2.2.2 ∧ p.2.2.2 ≤ 65535)) :
    Calls Try.prog 7 #[.agg #[.int .i64 x0, .int .i64 y0, .int .i64 x1, .int .i64 y1, .int .i64 s, .slice A zs.length c, .slice B ps.length k]] w fun e w' => e = .returned (.bool true) ∧ Below w.heap.size w w' := by
  by_cases hF : Fits x0 y0 x1 y1 s 1 zs.length
  · by_cases hE : Empt x0 y0 x1 y1
    · exact opq_g1 x0 y0 x1 y1 s A c zs B k ps w hr hl hn pr hy pok hF hE
    · by_cases hkn : Known x0 y0 x1 y1 s zs ps.length
      · by_cases pl : (ps.length : Int) ≤ 256
        · have h1 := hF.1.2.1
          have h2 := hF.1.2.2.1
          exact opq_fit x0 y0 x1 y1 s A c zs B k ps w hr hl hn pr hy pok hF hE hkn pl (x1 - x0).toNat (y1 - y0).toNat (show Hid _ from (by unfold Hid; omega)) (show Hid _ from (by unfold Hid; omega))
        · exact opq_g3 x0 y0 x1 y1 s A c zs B k ps w hr hl hn pr hy pok hF hE hkn (by omega)
      · exact opq_g2 x0 y0 x1 y1 s A c zs B k ps w hr hl hn pr hy pok hF hE hkn
  · exact opq_g0 x0 y0 x1 y1 s A c zs B k ps w hr hl hn pr hy pok hF

end Go.Proofs.Ytkhgobeeaiagfaa
