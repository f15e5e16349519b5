/- The walk of the law FnPalettedRun. -/
import Derived.Test.YtkhgobeeaiagfaaRunL
import Derived.Test.YtkhgobeeaiagfaaWSet
import Derived.Deep.RegionLaw
namespace Go.Proofs.Ytkhgobeeaiagfaa
open Go.RowKit
set_option linter.unusedVariables false
set_option linter.unusedSimpArgs false

theorem infoView : (Try.prog.info? 58).map (fun i => (i.zero, i.size, i.bytes)) = some (some (.agg #[.int .i64 0, .int .i64 0, .int .i64 0, .int .i64 0, .int .i64 0, .bool false]), 6, 48) := by kernel_rfl
theorem one6v (v : ViewD) : ∀ u ∈ viewV v, u.oneCell' = true := by
  intro u hu
  simp [viewV] at hu
  rcases hu with rfl | rfl | rfl | rfl | rfl | rfl <;> rfl
theorem flatV_get (vs : List ViewD) : ∀ {i : Nat} {v : ViewD}, vs[i]? = some v → ∀ {j : Nat} {u : Value}, (viewV v)[j]? = some u → (vs.flatMap viewV)[i * 6 + j]? = some u := by
  induction vs with
  | nil => intro i v h; simp at h
  | cons a r ih =>
    intro i v h j u hv
    have hj : j < 6 := by
      rcases Nat.lt_or_ge j 6 with h0 | h0
      · exact h0
      · rw [List.getElem?_eq_none (by simpa [viewV] using h0)] at hv; cases hv
    have hlen : (viewV a).length = 6 := rfl
    rw [List.flatMap_cons]
    match i, h with
    | 0, h =>
      simp at h
      subst h
      rw [List.getElem?_append_left (by omega)]
      simpa using hv
    | i + 1, h =>
      rw [List.getElem?_append_right (by omega), hlen, show (i + 1) * 6 + j - 6 = i * 6 + j by omega]
      exact ih (by simpa using h) hv
theorem newsV6 {w : World} {a b c d e f : Value} {t : TypeId} : ∀ (j : Nat) (u : Value), [a, b, c, d, e, f][j]? = some u → (w.alloc (.cells #[a, b, c, d, e, f] t)).cell? ((⟨w.heap.size, 0, none⟩ : Addr).add j) = some u := by
  intro j u hj
  match j, hj with
  | 0, hj => simp at hj; subst hj; simp [Addr.add]
  | 1, hj => simp at hj; subst hj; simp [Addr.add]
  | 2, hj => simp at hj; subst hj; simp [Addr.add]
  | 3, hj => simp at hj; subst hj; simp [Addr.add]
  | 4, hj => simp at hj; subst hj; simp [Addr.add]
  | 5, hj => simp at hj; subst hj; simp [Addr.add]
theorem clone_all (A : Option Addr) (c : Nat) (zs : List Int) (w : World) (hr : Reads w A zs) (hl : Small zs) (hn : A = none → c = 0) : Calls Try.prog 28 #[.slice A zs.length c] w (BytesBack zs w) := by
  rcases A with _ | ad
  · obtain rfl : c = 0 := hn rfl
    obtain rfl : zs = [] := hr.1 rfl
    refine (clone_nil w).mono ?_
    rintro e w1 ⟨rfl, rfl⟩
    exact ⟨none, 0, rfl, World.ownsRow_nil _ _ _ _, Below.refl _ _⟩
  · exact clone_any ad c zs w hr hl
theorem grown_cellR {w w' : World} {b : Option Nat} {a : Addr} {v : Value} (h : w.grownBy w' b) (hc : w.cell? a = some v) (hne : some a.block ≠ b) : w'.cell? a = some v := by
  rw [World.cell?_of_block (h.block a.block (World.block_lt_of_cell? w _ hc) hne)]
  exact hc

/-- All that the law's loop holds. -/
structure LawInv (W0 : World) (A : Option Addr) (L C gv cv n : Nat) (st : List Int × List ViewD) (wr : World) : Prop where
  below : Below W0.heap.size W0 wr
  pix : wr.ownsRow W0.heap.size 5 1 (.slice A L C) L (st.1.map (Value.int .u8))
  views : wr.ownsRow W0.heap.size 58 6 (.slice (some ⟨gv, 0, none⟩) n cv) n (st.2.flatMap viewV)
  len : n = st.2.length
section
variable {W0 wr wr' : World} {A : Option Addr} {L C gv cv n : Nat} {st : List Int × List ViewD}
theorem LawInv.next (h : LawInv W0 A L C gv cv n st wr) (hb : Below wr.heap.size wr wr') : LawInv W0 A L C gv cv n st wr' :=
  ⟨h.below.trans (hb.mono h.below.size), ownsRow_below h.pix hb, ownsRow_below h.views hb, h.len⟩
theorem LawInv.written {zs : List Int} (h : LawInv W0 A L C gv cv n st wr) (hg : wr.grownBy wr' (Value.slice A L C).ownBlock) (hp : wr'.ownsRow W0.heap.size 5 1 (.slice A L C) L (zs.map (Value.int .u8))) : LawInv W0 A L C gv cv n (zs, st.2) wr' := by
  refine ⟨?_, hp, h.views.kept hg (own_ne h.views h.pix (by decide)), h.len⟩
  refine h.below.trans ⟨hg.os, hg.tape, hg.output, hg.size, fun k hk => hg.block k (Nat.lt_of_lt_of_le hk h.below.size) (fun e => ?_)⟩
  have := (h.pix.lt k e.symm).1
  omega
theorem LawInv.more {gv' cv' : Nat} {v : ViewD} (h : LawInv W0 A L C gv cv n st wr) (hown : wr'.ownsRow W0.heap.size 58 6 (.slice (some ⟨gv', 0, none⟩) (n + 1) cv') (n + 1) (st.2.flatMap viewV ++ viewV v)) (hg : wr.grownBy wr' (Value.slice (some ⟨gv, 0, none⟩) n cv).ownBlock) : LawInv W0 A L C gv' cv' (n + 1) (st.1, st.2 ++ [v]) wr' := by
  refine ⟨?_, h.pix.kept hg (own_ne h.pix h.views (by decide)), by simpa [List.flatMap_append] using hown, by simp [h.len]⟩
  refine h.below.trans ⟨hg.os, hg.tape, hg.output, hg.size, fun k hk => hg.block k (Nat.lt_of_lt_of_le hk h.below.size) (fun e => ?_)⟩
  have := (h.views.lt k e.symm).1
  omega
theorem LawInv.view (h : LawInv W0 A L C gv cv n st wr) {i : Nat} (hi : i < n) {j : Nat} {u : Value} (hu : (viewV (st.2.getD i zeroV))[j]? = some u) : wr.cell? ⟨gv, i * 6 + j, none⟩ = some u := by
  have hi' : i < st.2.length := by rw [← h.len]; exact hi
  have hj : j < 6 := by
    rcases Nat.lt_or_ge j 6 with h0 | h0
    · exact h0
    · rw [List.getElem?_eq_none (by simpa [viewV] using h0)] at hu; cases hu
  rw [h.views.cellAt (i * 6 + j) (by omega)]
  refine flatV_get _ ?_ hu
  rw [List.getD_eq_getElem?_getD, List.getElem?_eq_getElem hi']
  rfl
end

set_option maxRecDepth 100000 in
set_option maxHeartbeats 8000000 in
theorem run_unfit (x0 y0 x1 y1 s : Int) (A : Option Addr) (c : Nat) (zs : List Int) (Bp : Option Addr) (kb : Nat) (ps : List (Int × Int × Int × Int)) (B : Option Addr) (cB : Nat) (l : List StepD) (w : World) (hr : Hid (Reads w A zs)) (hy : Hid (Bytes zs)) (hl : Small zs) (hn : Hid (A = none → c = 0)) (pr : Hid (PReads w Bp ps)) (pl : (ps.length : Int) ≤ 2097152) (hQ : Hid (StepsAt w B l)) (hok : Hid (∀ p ∈ l, OkS p)) (hll : (l.length : Int) ≤ 2097152) (hF : Hid (¬ Fits x0 y0 x1 y1 s 1 zs.length)) :
    Calls Try.prog 13 #[.agg #[.int .i64 x0, .int .i64 y0, .int .i64 x1, .int .i64 y1, .int .i64 s, .slice A zs.length c, .slice Bp ps.length kb], .slice B l.length cB] w fun e w' => e = .returned (.bool true) ∧ Below w.heap.size w w' := by
  have hB : Below w.heap.size w (w.alloc (.cells #[.int .i64 x0, .int .i64 y0, .int .i64 x1, .int .i64 y1, .int .i64 s, .slice A zs.length c, .slice Bp ps.length kb] 27)) := (Below.refl _ _).alloc (Nat.le_refl _) _
  have D0 : (w.alloc (.cells #[.int .i64 x0, .int .i64 y0, .int .i64 x1, .int .i64 y1, .int .i64 s, .slice A zs.length c, .slice Bp ps.length kb] 27)).cell? ⟨w.heap.size, 0, none⟩ = some (.int .i64 x0) := by first | (simp; done) | go_simp
  have D1 : (w.alloc (.cells #[.int .i64 x0, .int .i64 y0, .int .i64 x1, .int .i64 y1, .int .i64 s, .slice A zs.length c, .slice Bp ps.length kb] 27)).cell? ⟨w.heap.size, 1, none⟩ = some (.int .i64 y0) := by first | (simp; done) | go_simp
  have D2 : (w.alloc (.cells #[.int .i64 x0, .int .i64 y0, .int .i64 x1, .int .i64 y1, .int .i64 s, .slice A zs.length c, .slice Bp ps.length kb] 27)).cell? ⟨w.heap.size, 2, none⟩ = some (.int .i64 x1) := by first | (simp; done) | go_simp
  have D3 : (w.alloc (.cells #[.int .i64 x0, .int .i64 y0, .int .i64 x1, .int .i64 y1, .int .i64 s, .slice A zs.length c, .slice Bp ps.length kb] 27)).cell? ⟨w.heap.size, 3, none⟩ = some (.int .i64 y1) := by first | (simp; done) | go_simp
  have D4 : (w.alloc (.cells #[.int .i64 x0, .int .i64 y0, .int .i64 x1, .int .i64 y1, .int .i64 s, .slice A zs.length c, .slice Bp ps.length kb] 27)).cell? ⟨w.heap.size, 4, none⟩ = some (.int .i64 s) := by first | (simp; done) | go_simp
  have D5 : (w.alloc (.cells #[.int .i64 x0, .int .i64 y0, .int .i64 x1, .int .i64 y1, .int .i64 s, .slice A zs.length c, .slice Bp ps.length kb] 27)).cell? ⟨w.heap.size, 5, none⟩ = some (.slice A zs.length c) := by first | (simp; done) | go_simp
  have D6 : (w.alloc (.cells #[.int .i64 x0, .int .i64 y0, .int .i64 x1, .int .i64 y1, .int .i64 s, .slice A zs.length c, .slice Bp ps.length kb] 27)).cell? ⟨w.heap.size, 6, none⟩ = some (.slice Bp ps.length kb) := by first | (simp; done) | go_simp
  have hzW : w.heap.size < (w.alloc (.cells #[.int .i64 x0, .int .i64 y0, .int .i64 x1, .int .i64 y1, .int .i64 s, .slice A zs.length c, .slice Bp ps.length kb] 27)).heap.size := by simp
  go_enter Try.func13, Try.ntmps13
  go_wp2_with fail
  generalize (w.alloc (.cells #[.int .i64 x0, .int .i64 y0, .int .i64 x1, .int .i64 y1, .int .i64 s, .slice A zs.length c, .slice Bp ps.length kb] 27)) = W0 at *
  refine (fitsK_any x0 y0 x1 y1 s A c zs Bp kb ps false (by simp [hF.out]) _).mono ?_
  rintro e w1 ⟨rfl, hb1⟩
  go_wp2
  go_ret
  exact ⟨by simp, hB.trans (hb1.mono hB.size)⟩

set_option maxRecDepth 100000 in
set_option maxHeartbeats 8000000 in
theorem run_far (x0 y0 x1 y1 s : Int) (A : Option Addr) (c : Nat) (zs : List Int) (Bp : Option Addr) (kb : Nat) (ps : List (Int × Int × Int × Int)) (B : Option Addr) (cB : Nat) (l : List StepD) (w : World) (hr : Hid (Reads w A zs)) (hy : Hid (Bytes zs)) (hl : Small zs) (hn : Hid (A = none → c = 0)) (pr : Hid (PReads w Bp ps)) (pl : (ps.length : Int) ≤ 2097152) (hQ : Hid (StepsAt w B l)) (hok : Hid (∀ p ∈ l, OkS p)) (hll : (l.length : Int) ≤ 2097152) (hF : Hid (Fits x0 y0 x1 y1 s 1 zs.length)) (hS : Hid (¬ Steady l)) :
    Calls Try.prog 13 #[.agg #[.int .i64 x0, .int .i64 y0, .int .i64 x1, .int .i64 y1, .int .i64 s, .slice A zs.length c, .slice Bp ps.length kb], .slice B l.length cB] w fun e w' => e = .returned (.bool true) ∧ Below w.heap.size w w' := by
  have hB : Below w.heap.size w (w.alloc (.cells #[.int .i64 x0, .int .i64 y0, .int .i64 x1, .int .i64 y1, .int .i64 s, .slice A zs.length c, .slice Bp ps.length kb] 27)) := (Below.refl _ _).alloc (Nat.le_refl _) _
  have D0 : (w.alloc (.cells #[.int .i64 x0, .int .i64 y0, .int .i64 x1, .int .i64 y1, .int .i64 s, .slice A zs.length c, .slice Bp ps.length kb] 27)).cell? ⟨w.heap.size, 0, none⟩ = some (.int .i64 x0) := by first | (simp; done) | go_simp
  have D1 : (w.alloc (.cells #[.int .i64 x0, .int .i64 y0, .int .i64 x1, .int .i64 y1, .int .i64 s, .slice A zs.length c, .slice Bp ps.length kb] 27)).cell? ⟨w.heap.size, 1, none⟩ = some (.int .i64 y0) := by first | (simp; done) | go_simp
  have D2 : (w.alloc (.cells #[.int .i64 x0, .int .i64 y0, .int .i64 x1, .int .i64 y1, .int .i64 s, .slice A zs.length c, .slice Bp ps.length kb] 27)).cell? ⟨w.heap.size, 2, none⟩ = some (.int .i64 x1) := by first | (simp; done) | go_simp
  have D3 : (w.alloc (.cells #[.int .i64 x0, .int .i64 y0, .int .i64 x1, .int .i64 y1, .int .i64 s, .slice A zs.length c, .slice Bp ps.length kb] 27)).cell? ⟨w.heap.size, 3, none⟩ = some (.int .i64 y1) := by first | (simp; done) | go_simp
  have D4 : (w.alloc (.cells #[.int .i64 x0, .int .i64 y0, .int .i64 x1, .int .i64 y1, .int .i64 s, .slice A zs.length c, .slice Bp ps.length kb] 27)).cell? ⟨w.heap.size, 4, none⟩ = some (.int .i64 s) := by first | (simp; done) | go_simp
  have D5 : (w.alloc (.cells #[.int .i64 x0, .int .i64 y0, .int .i64 x1, .int .i64 y1, .int .i64 s, .slice A zs.length c, .slice Bp ps.length kb] 27)).cell? ⟨w.heap.size, 5, none⟩ = some (.slice A zs.length c) := by first | (simp; done) | go_simp
  have D6 : (w.alloc (.cells #[.int .i64 x0, .int .i64 y0, .int .i64 x1, .int .i64 y1, .int .i64 s, .slice A zs.length c, .slice Bp ps.length kb] 27)).cell? ⟨w.heap.size, 6, none⟩ = some (.slice Bp ps.length kb) := by first | (simp; done) | go_simp
  have hzW : w.heap.size < (w.alloc (.cells #[.int .i64 x0, .int .i64 y0, .int .i64 x1, .int .i64 y1, .int .i64 s, .slice A zs.length c, .slice Bp ps.length kb] 27)).heap.size := by simp
  go_enter Try.func13, Try.ntmps13
  go_wp2_with fail
  generalize (w.alloc (.cells #[.int .i64 x0, .int .i64 y0, .int .i64 x1, .int .i64 y1, .int .i64 s, .slice A zs.length c, .slice Bp ps.length kb] 27)) = W0 at *
  refine (fitsK_any x0 y0 x1 y1 s A c zs Bp kb ps true (by simp [hF.out]) _).mono ?_
  rintro e w1 ⟨rfl, hb1⟩
  go_wp2_with fail
  refine (steady_any B cB l false (show Hid _ from (by unfold Hid; simp [hS.out])) _ (hQ.out.below (hB.trans (hb1.mono hB.size))) (by omega)).mono ?_
  rintro e w2 ⟨rfl, hb2⟩
  go_wp2
  go_ret
  exact ⟨by simp, hB.trans ((hb1.trans (hb2.mono hb1.size)).mono hB.size)⟩

set_option maxRecDepth 100000 in
set_option maxHeartbeats 20000000 in
theorem run_fit (x0 y0 x1 y1 s : Int) (A : Option Addr) (c : Nat) (zs : List Int) (Bp : Option Addr) (kb : Nat) (ps : List (Int × Int × Int × Int)) (B : Option Addr) (cB : Nat) (l : List StepD) (w : World) (hr : Hid (Reads w A zs)) (hy : Hid (Bytes zs)) (hl : Small zs) (hn : Hid (A = none → c = 0)) (pr : Hid (PReads w Bp ps)) (pl : (ps.length : Int) ≤ 2097152) (hQ : Hid (StepsAt w B l)) (hok : Hid (∀ p ∈ l, OkS p)) (hll : (l.length : Int) ≤ 2097152) (hF : Hid (Fits x0 y0 x1 y1 s 1 zs.length)) (hS : Hid (Steady l)) :
    Calls Try.prog 13 #[.agg #[.int .i64 x0, .int .i64 y0, .int .i64 x1, .int .i64 y1, .int .i64 s, .slice A zs.length c, .slice Bp ps.length kb], .slice B l.length cB] w fun e w' => e = .returned (.bool true) ∧ Below w.heap.size w w' := by
  have hB : Below w.heap.size w (w.alloc (.cells #[.int .i64 x0, .int .i64 y0, .int .i64 x1, .int .i64 y1, .int .i64 s, .slice A zs.length c, .slice Bp ps.length kb] 27)) := (Below.refl _ _).alloc (Nat.le_refl _) _
  have D0 : (w.alloc (.cells #[.int .i64 x0, .int .i64 y0, .int .i64 x1, .int .i64 y1, .int .i64 s, .slice A zs.length c, .slice Bp ps.length kb] 27)).cell? ⟨w.heap.size, 0, none⟩ = some (.int .i64 x0) := by first | (simp; done) | go_simp
  have D1 : (w.alloc (.cells #[.int .i64 x0, .int .i64 y0, .int .i64 x1, .int .i64 y1, .int .i64 s, .slice A zs.length c, .slice Bp ps.length kb] 27)).cell? ⟨w.heap.size, 1, none⟩ = some (.int .i64 y0) := by first | (simp; done) | go_simp
  have D2 : (w.alloc (.cells #[.int .i64 x0, .int .i64 y0, .int .i64 x1, .int .i64 y1, .int .i64 s, .slice A zs.length c, .slice Bp ps.length kb] 27)).cell? ⟨w.heap.size, 2, none⟩ = some (.int .i64 x1) := by first | (simp; done) | go_simp
  have D3 : (w.alloc (.cells #[.int .i64 x0, .int .i64 y0, .int .i64 x1, .int .i64 y1, .int .i64 s, .slice A zs.length c, .slice Bp ps.length kb] 27)).cell? ⟨w.heap.size, 3, none⟩ = some (.int .i64 y1) := by first | (simp; done) | go_simp
  have D4 : (w.alloc (.cells #[.int .i64 x0, .int .i64 y0, .int .i64 x1, .int .i64 y1, .int .i64 s, .slice A zs.length c, .slice Bp ps.length kb] 27)).cell? ⟨w.heap.size, 4, none⟩ = some (.int .i64 s) := by first | (simp; done) | go_simp
  have D5 : (w.alloc (.cells #[.int .i64 x0, .int .i64 y0, .int .i64 x1, .int .i64 y1, .int .i64 s, .slice A zs.length c, .slice Bp ps.length kb] 27)).cell? ⟨w.heap.size, 5, none⟩ = some (.slice A zs.length c) := by first | (simp; done) | go_simp
  have D6 : (w.alloc (.cells #[.int .i64 x0, .int .i64 y0, .int .i64 x1, .int .i64 y1, .int .i64 s, .slice A zs.length c, .slice Bp ps.length kb] 27)).cell? ⟨w.heap.size, 6, none⟩ = some (.slice Bp ps.length kb) := by first | (simp; done) | go_simp
  have hzW : w.heap.size < (w.alloc (.cells #[.int .i64 x0, .int .i64 y0, .int .i64 x1, .int .i64 y1, .int .i64 s, .slice A zs.length c, .slice Bp ps.length kb] 27)).heap.size := by simp
  go_enter Try.func13, Try.ntmps13
  go_wp2_with fail
  generalize (w.alloc (.cells #[.int .i64 x0, .int .i64 y0, .int .i64 x1, .int .i64 y1, .int .i64 s, .slice A zs.length c, .slice Bp ps.length kb] 27)) = W0 at *
  refine (fitsK_any x0 y0 x1 y1 s A c zs Bp kb ps true (by simp [hF.out]) _).mono ?_
  rintro e w1 ⟨rfl, hb1⟩
  go_wp2_with fail
  refine (steady_any B cB l true (show Hid _ from (by unfold Hid; simp [hS.out])) _ (hQ.out.below (hB.trans (hb1.mono hB.size))) (by omega)).mono ?_
  rintro e w2 ⟨rfl, hb2⟩
  have hb12 : Below W0.heap.size W0 w2 := hb1.trans (hb2.mono hb1.size)
  have d0 := cell_kept D0 hb12
  have d1 := cell_kept D1 hb12
  have d2 := cell_kept D2 hb12
  have d3 := cell_kept D3 hb12
  have d4 := cell_kept D4 hb12
  have d5 := cell_kept D5 hb12
  have d6 := cell_kept D6 hb12
  have HRc := Lib.hid ((hr.out.below hB).below hb12)
  clear hb1 hb2
  go_wp2_with fail
  refine (clone_all A c zs _ HRc.out hl hn.out).mono ?_
  rintro e w3 ⟨A3, c3, rfl, hown3, hb3⟩
  have hb03 : Below W0.heap.size W0 w3 := hb12.trans (hb3.mono hb12.size)
  replace d0 := cell_kept d0 hb3
  replace d1 := cell_kept d1 hb3
  replace d2 := cell_kept d2 hb3
  replace d3 := cell_kept d3 hb3
  replace d4 := cell_kept d4 hb3
  replace d5 := cell_kept d5 hb3
  replace d6 := cell_kept d6 hb3
  have HO3 := Lib.hid (ownsRow_base (base := W0.heap.size) hown3 hb12.size)
  have HC3 : Hid (c3 ≤ 9223372036854775807) := own_cap hown3
  clear hown3 hb3 HRc hb12
  obtain ⟨eb, heb⟩ : ∃ eb : Bool, (eb = true ↔ Empt x0 y0 x1 y1) := ⟨decide (Empt x0 y0 x1 y1), by simp⟩
  have HEB := Lib.hid heb
  clear heb
  have HFV : Hid ((!eb) = (firstV x0 y0 x1 y1).on) := by
    unfold Hid firstV
    cases eb with
    | false => simp; exact fun h => by have := HEB.out.2 h; cases this
    | true => simp; exact HEB.out.1 rfl
  have tok1 : True := trivial
  go_wp2_with fail
  have P0 : Below w3.heap.size w3 w3.drew := (Below.refl _ _).drew
  have toS : ∀ W' : World, Below w3.heap.size w3 W' → (W'.cell? ⟨w.heap.size, 0, none⟩ = some (.int .i64 x0) ∧ W'.cell? ⟨w.heap.size, 1, none⟩ = some (.int .i64 y0) ∧ W'.cell? ⟨w.heap.size, 2, none⟩ = some (.int .i64 x1) ∧ W'.cell? ⟨w.heap.size, 3, none⟩ = some (.int .i64 y1)) := fun W' h => ⟨cell_kept d0 h, cell_kept d1 h, cell_kept d2 h, cell_kept d3 h⟩
  have TOS := Lib.hid toS
  clear toS
  go_region_held3 (fun w' => w'.cell? ⟨w.heap.size, 0, none⟩ = some (.int .i64 x0) ∧ w'.cell? ⟨w.heap.size, 1, none⟩ = some (.int .i64 y0) ∧ w'.cell? ⟨w.heap.size, 2, none⟩ = some (.int .i64 x1) ∧ w'.cell? ⟨w.heap.size, 3, none⟩ = some (.int .i64 y1))
    ((refine TOS.out _ ?_; first | with_reducible exact P3 | with_reducible exact P3.alloc P3.size _ | with_reducible exact P2 | with_reducible exact P1 | with_reducible exact P0))
    (first | (go_at_call 20; have _t := tok1; refine (box_any x0 y0 x1 y1 _).mono ?_; rintro e u1 ⟨rfl, hv1⟩; clear tok1; have P1 : Below w3.heap.size w3 u1 := P0.trans (hv1.mono P0.size)) | (go_at_call 20; refine (box_any x0 y0 x1 y1 _).mono ?_; rintro e u2 ⟨rfl, hv2⟩; have P2 : Below w3.heap.size w3 u2 := P1.trans (hv2.mono P1.size)) | (go_at_call 23; refine (empt_any x0 y0 x1 y1 eb HEB.out _).mono ?_; rintro e u3 ⟨rfl, hv3⟩; have P3 : Below w3.heap.size w3 u3 := P2.trans (hv3.mono P2.size)))
  have HL0 : Hid (LawInv W0 A3 zs.length c3 u3.heap.size 1 1 (zs, [firstV x0 y0 x1 y1]) (u3.alloc (.cells #[.int .i64 x0, .int .i64 y0, .int .i64 x1, .int .i64 y1, .int .i64 0, .bool (!eb)] 58))) := by
    have aw := P3.alloc P3.size (.cells #[.int .i64 x0, .int .i64 y0, .int .i64 x1, .int .i64 y1, .int .i64 0, .bool (!eb)] 58)
    refine ⟨hb03.trans (aw.mono hb03.size), ownsRow_below HO3.out aw, ?_, rfl⟩
    rw [HFV.out]
    exact World.ownsRow_lit u3 #[.int .i64 x0, .int .i64 y0, .int .i64 x1, .int .i64 y1, .int .i64 0, .bool (firstV x0 y0 x1 y1).on] 1 (Nat.le_trans hb03.size P3.size) (by unfold maxLen; omega) rfl
  clear P0 P1 P2 P3 hv1 hv2 hv3 TOS HO3 hb03 d0 d1 d2 d3 d4 d5 d6
  have HLn : Hid (zs.length ≤ 140737488351232) := hl
  have HG : Hid (∀ k, GoodG s zs.length (runG s (zs, [firstV x0 y0 x1 y1]) (l.take k))) := fun k => runG_good hF.out.2.1 _ (fun p hp => hok.out p (List.mem_of_mem_take hp)) (first_good hF.out hy.out)
  obtain ⟨i6, hi6, hy0, hy1, hy2⟩ := info_parts infoView
  go_wp2
  go_loopw [6, 38] (fun vw q wr => ∃ (k n gv cv : Nat), k ≤ l.length ∧ n ≤ k + 1 ∧ q = .int .i64 k ∧ vw = .slice (some ⟨gv, 0, none⟩) n cv ∧ Hid (LawInv W0 A3 zs.length c3 gv cv n (runG s (zs, [firstV x0 y0 x1 y1]) (l.take k)) wr)) (fun _ q _ => l.length - (intOf q).toNat)
  case atStart => exact ⟨0, 1, _, _, Nat.zero_le _, by omega, rfl, rfl, HL0⟩
  case round =>
    obtain ⟨k, n, gv, cv, hk, hnk, rfl, rfl, HI⟩ := hrel
    clear HL0
    by_cases hkl : k < l.length
    · have HQ := Lib.hid ((hQ.out.below hB).below HI.out.below)
      obtain ⟨p, hp⟩ : ∃ p, l[k]? = some p := ⟨_, List.getElem?_eq_getElem hkl⟩
      have HOK : Hid (OkS p) := hok.out p (List.mem_of_getElem? hp)
      obtain ⟨b, o, rfl⟩ := hQ.out.addr (by omega)
      obtain ⟨op, im, x, y, r0, r1, r2, r3, v0, v1, v2, v3, ix⟩ := p
      have q0 : wr.cell? ⟨b, o + k * 13, none⟩ = some (.int .i64 op) := HQ.out.cell hp (j := 0) rfl
      have q1 : wr.cell? ⟨b, o + k * 13 + 1, none⟩ = some (.int .i64 im) := HQ.out.cell hp (j := 1) rfl
      have q2 : wr.cell? ⟨b, o + k * 13 + 2, none⟩ = some (.int .i64 x) := HQ.out.cell hp (j := 2) rfl
      have q3 : wr.cell? ⟨b, o + k * 13 + 3, none⟩ = some (.int .i64 y) := HQ.out.cell hp (j := 3) rfl
      have q4 : wr.cell? ⟨b, o + k * 13 + 4, none⟩ = some (.int .i64 r0) := HQ.out.cell hp (j := 4) rfl
      have q5 : wr.cell? ⟨b, o + k * 13 + 5, none⟩ = some (.int .i64 r1) := HQ.out.cell hp (j := 5) rfl
      have q6 : wr.cell? ⟨b, o + k * 13 + 6, none⟩ = some (.int .i64 r2) := HQ.out.cell hp (j := 6) rfl
      have q7 : wr.cell? ⟨b, o + k * 13 + 7, none⟩ = some (.int .i64 r3) := HQ.out.cell hp (j := 7) rfl
      have q8 : wr.cell? ⟨b, o + k * 13 + 8, none⟩ = some (.int .u16 v0) := HQ.out.cell hp (j := 8) rfl
      have q9 : wr.cell? ⟨b, o + k * 13 + 9, none⟩ = some (.int .u16 v1) := HQ.out.cell hp (j := 9) rfl
      have q10 : wr.cell? ⟨b, o + k * 13 + 10, none⟩ = some (.int .u16 v2) := HQ.out.cell hp (j := 10) rfl
      have q11 : wr.cell? ⟨b, o + k * 13 + 11, none⟩ = some (.int .u16 v3) := HQ.out.cell hp (j := 11) rfl
      have q12 : wr.cell? ⟨b, o + k * 13 + 12, none⟩ = some (.int .u8 ix) := HQ.out.cell hp (j := 12) rfl
      have HP := Lib.hid hp
      clear hp HQ
      have hcl : l.length ≤ 2097152 := by omega
      have hsk : ∀ (W' : World), Below wr.heap.size wr W' → (im < 0 ∨ (n : Int) ≤ im) → LawInv W0 A3 zs.length c3 gv cv n (runG s (zs, [firstV x0 y0 x1 y1]) (l.take (k + 1))) W' := fun W' hb hs => by
        rw [runG_snoc s _ l HP.out, stepG_skip _ _ _ (by rw [← HI.out.len]; exact hs)]
        exact HI.out.next hb
      have HSK := Lib.hid hsk
      clear hsk
      by_cases him : im < 0
      · go_wp2
        go_roundw
        case rel => exact ⟨k + 1, n, gv, cv, by omega, by omega, by go_num, rfl, HSK.out _ ((Below.refl _ _).alloc (Nat.le_refl _) _) (Or.inl him)⟩
        case measure => simp [intOf]; omega
      · by_cases him2 : (n : Int) ≤ im
        · go_wp2
          go_roundw
          case rel => exact ⟨k + 1, n, gv, cv, by omega, by omega, by go_num, rfl, HSK.out _ ((Below.refl _ _).alloc (Nat.le_refl _) _) (Or.inr him2)⟩
          case measure => simp [intOf]; omega
        · obtain ⟨i, rfl⟩ := Int.eq_ofNat_of_zero_le (show 0 ≤ im by omega)
          have hin : (i : Int) < (n : Int) := by omega
          have hi0 : (0 : Int) ≤ (i : Int) := by omega
          have hiN : i < n := by omega
          have HGV : Hid (GoodV s zs.length ((runG s (zs, [firstV x0 y0 x1 y1]) (l.take k)).2.getD i zeroV)) := (HG.out k).2.2.1 _ (mem_getD (by rw [← HI.out.len]; exact hiN))
          obtain ⟨v, hv⟩ : ∃ v, (runG s (zs, [firstV x0 y0 x1 y1]) (l.take k)).2.getD i zeroV = v := ⟨_, rfl⟩
          have HV := Lib.hid hv
          rw [hv] at HGV
          clear hv
          obtain ⟨vx0, vy0, vx1, vy1, vb, von⟩ := v
          have e0 : wr.cell? ⟨gv, i * 6, none⟩ = some (.int .i64 vx0) := HI.out.view hiN (j := 0) (by rw [HV.out]; rfl)
          have e1 : wr.cell? ⟨gv, i * 6 + 1, none⟩ = some (.int .i64 vy0) := HI.out.view hiN (j := 1) (by rw [HV.out]; rfl)
          have e2 : wr.cell? ⟨gv, i * 6 + 2, none⟩ = some (.int .i64 vx1) := HI.out.view hiN (j := 2) (by rw [HV.out]; rfl)
          have e3 : wr.cell? ⟨gv, i * 6 + 3, none⟩ = some (.int .i64 vy1) := HI.out.view hiN (j := 3) (by rw [HV.out]; rfl)
          have e4 : wr.cell? ⟨gv, i * 6 + 4, none⟩ = some (.int .i64 (vb : Int)) := HI.out.view hiN (j := 4) (by rw [HV.out]; rfl)
          have e5 : wr.cell? ⟨gv, i * 6 + 5, none⟩ = some (.bool von) := HI.out.view hiN (j := 5) (by rw [HV.out]; rfl)
          have hgl : gv < wr.heap.size := block_lt_of_cell e0
          have hga1 : ¬ gv = wr.heap.size := by omega
          have hga2 : ¬ wr.heap.size = gv := by omega
          have hdi : decide ((i : Int) < 0) = false := by simp
          have hdn : decide (n ≤ i) = false := by simp; omega
          clear him him2
          have hne : ∀ (W' : World), Below wr.heap.size wr W' → (op ≠ 0 ∧ op ≠ 1 ∨ op = 0 ∧ ¬ Hits ⟨vx0, vy0, vx1, vy1, vb, von⟩ ⟨op, (i : Int), x, y, r0, r1, r2, r3, v0, v1, v2, v3, ix⟩) → LawInv W0 A3 zs.length c3 gv cv n (runG s (zs, [firstV x0 y0 x1 y1]) (l.take (k + 1))) W' := fun W' hb hs => by
            rw [runG_snoc s _ l HP.out]
            rcases hs with ⟨h1, h2⟩ | ⟨h1, h2⟩
            · rw [stepG_other s _ _ hi0 (by rw [← HI.out.len]; exact hin) h1 h2]
              exact HI.out.next hb
            · rw [stepG_set s _ _ hi0 (by rw [← HI.out.len]; exact hin) h1]
              show LawInv W0 A3 zs.length c3 gv cv n (setV s (runG s (zs, [firstV x0 y0 x1 y1]) (l.take k)).1 ((runG s (zs, [firstV x0 y0 x1 y1]) (l.take k)).2.getD i zeroV) _, (runG s (zs, [firstV x0 y0 x1 y1]) (l.take k)).2) W'
              rw [HV.out]
              unfold setV
              rw [if_neg h2]
              exact HI.out.next hb
          have HNE := Lib.hid hne
          clear hne
          by_cases hop : op = 0
          · subst hop
            cases von with
            | false =>
              go_wp2
              go_roundw
              case rel => exact ⟨k + 1, n, gv, cv, by omega, by omega, by go_num, rfl, HNE.out _ (((Below.refl _ _).alloc (Nat.le_refl _) _).trans (((Below.refl _ _).alloc (Nat.le_refl _) _).mono (by simp))) (Or.inr ⟨rfl, fun h => by have := h.1; cases this⟩)⟩
              case measure => simp [intOf]; omega
            | true =>
              go_wp2_with fail
              have bw : Below wr.heap.size wr ((wr.alloc (.cells #[.int .i64 0, .int .i64 (i : Int), .int .i64 x, .int .i64 y, .int .i64 r0, .int .i64 r1, .int .i64 r2, .int .i64 r3, .int .u16 v0, .int .u16 v1, .int .u16 v2, .int .u16 v3, .int .u8 ix] 61)).alloc (.cells #[.int .i64 vx0, .int .i64 vy0, .int .i64 vx1, .int .i64 vy1, .int .i64 (vb : Int), .bool true] 58)) := ((Below.refl _ _).alloc (Nat.le_refl _) _).trans (((Below.refl _ _).alloc (Nat.le_refl _) _).mono (by simp))
              have g2 : ((wr.alloc (.cells #[.int .i64 0, .int .i64 (i : Int), .int .i64 x, .int .i64 y, .int .i64 r0, .int .i64 r1, .int .i64 r2, .int .i64 r3, .int .u16 v0, .int .u16 v1, .int .u16 v2, .int .u16 v3, .int .u8 ix] 61)).alloc (.cells #[.int .i64 vx0, .int .i64 vy0, .int .i64 vx1, .int .i64 vy1, .int .i64 (vb : Int), .bool true] 58)).cell? ⟨wr.heap.size, 2, none⟩ = some (.int .i64 x) := by first | (simp; done) | go_simp
              have g3 : ((wr.alloc (.cells #[.int .i64 0, .int .i64 (i : Int), .int .i64 x, .int .i64 y, .int .i64 r0, .int .i64 r1, .int .i64 r2, .int .i64 r3, .int .u16 v0, .int .u16 v1, .int .u16 v2, .int .u16 v3, .int .u8 ix] 61)).alloc (.cells #[.int .i64 vx0, .int .i64 vy0, .int .i64 vx1, .int .i64 vy1, .int .i64 (vb : Int), .bool true] 58)).cell? ⟨wr.heap.size, 3, none⟩ = some (.int .i64 y) := by first | (simp; done) | go_simp
              have g12 : ((wr.alloc (.cells #[.int .i64 0, .int .i64 (i : Int), .int .i64 x, .int .i64 y, .int .i64 r0, .int .i64 r1, .int .i64 r2, .int .i64 r3, .int .u16 v0, .int .u16 v1, .int .u16 v2, .int .u16 v3, .int .u8 ix] 61)).alloc (.cells #[.int .i64 vx0, .int .i64 vy0, .int .i64 vx1, .int .i64 vy1, .int .i64 (vb : Int), .bool true] 58)).cell? ⟨wr.heap.size, 12, none⟩ = some (.int .u8 ix) := by first | (simp; done) | go_simp
              have f0 : ((wr.alloc (.cells #[.int .i64 0, .int .i64 (i : Int), .int .i64 x, .int .i64 y, .int .i64 r0, .int .i64 r1, .int .i64 r2, .int .i64 r3, .int .u16 v0, .int .u16 v1, .int .u16 v2, .int .u16 v3, .int .u8 ix] 61)).alloc (.cells #[.int .i64 vx0, .int .i64 vy0, .int .i64 vx1, .int .i64 vy1, .int .i64 (vb : Int), .bool true] 58)).cell? ⟨wr.heap.size + 1, 0, none⟩ = some (.int .i64 vx0) := by first | (simp; done) | go_simp
              have f1 : ((wr.alloc (.cells #[.int .i64 0, .int .i64 (i : Int), .int .i64 x, .int .i64 y, .int .i64 r0, .int .i64 r1, .int .i64 r2, .int .i64 r3, .int .u16 v0, .int .u16 v1, .int .u16 v2, .int .u16 v3, .int .u8 ix] 61)).alloc (.cells #[.int .i64 vx0, .int .i64 vy0, .int .i64 vx1, .int .i64 vy1, .int .i64 (vb : Int), .bool true] 58)).cell? ⟨wr.heap.size + 1, 1, none⟩ = some (.int .i64 vy0) := by first | (simp; done) | go_simp
              have f2 : ((wr.alloc (.cells #[.int .i64 0, .int .i64 (i : Int), .int .i64 x, .int .i64 y, .int .i64 r0, .int .i64 r1, .int .i64 r2, .int .i64 r3, .int .u16 v0, .int .u16 v1, .int .u16 v2, .int .u16 v3, .int .u8 ix] 61)).alloc (.cells #[.int .i64 vx0, .int .i64 vy0, .int .i64 vx1, .int .i64 vy1, .int .i64 (vb : Int), .bool true] 58)).cell? ⟨wr.heap.size + 1, 2, none⟩ = some (.int .i64 vx1) := by first | (simp; done) | go_simp
              have f3 : ((wr.alloc (.cells #[.int .i64 0, .int .i64 (i : Int), .int .i64 x, .int .i64 y, .int .i64 r0, .int .i64 r1, .int .i64 r2, .int .i64 r3, .int .u16 v0, .int .u16 v1, .int .u16 v2, .int .u16 v3, .int .u8 ix] 61)).alloc (.cells #[.int .i64 vx0, .int .i64 vy0, .int .i64 vx1, .int .i64 vy1, .int .i64 (vb : Int), .bool true] 58)).cell? ⟨wr.heap.size + 1, 3, none⟩ = some (.int .i64 vy1) := by first | (simp; done) | go_simp
              have f4 : ((wr.alloc (.cells #[.int .i64 0, .int .i64 (i : Int), .int .i64 x, .int .i64 y, .int .i64 r0, .int .i64 r1, .int .i64 r2, .int .i64 r3, .int .u16 v0, .int .u16 v1, .int .u16 v2, .int .u16 v3, .int .u8 ix] 61)).alloc (.cells #[.int .i64 vx0, .int .i64 vy0, .int .i64 vx1, .int .i64 vy1, .int .i64 (vb : Int), .bool true] 58)).cell? ⟨wr.heap.size + 1, 4, none⟩ = some (.int .i64 (vb : Int)) := by first | (simp; done) | go_simp
              have f5 : ((wr.alloc (.cells #[.int .i64 0, .int .i64 (i : Int), .int .i64 x, .int .i64 y, .int .i64 r0, .int .i64 r1, .int .i64 r2, .int .i64 r3, .int .u16 v0, .int .u16 v1, .int .u16 v2, .int .u16 v3, .int .u8 ix] 61)).alloc (.cells #[.int .i64 vx0, .int .i64 vy0, .int .i64 vx1, .int .i64 vy1, .int .i64 (vb : Int), .bool true] 58)).cell? ⟨wr.heap.size + 1, 5, none⟩ = some (.bool true) := by first | (simp; done) | go_simp
              have d4 := cell_kept (cell_kept D4 HI.out.below) bw
              generalize ((wr.alloc (.cells #[.int .i64 0, .int .i64 (i : Int), .int .i64 x, .int .i64 y, .int .i64 r0, .int .i64 r1, .int .i64 r2, .int .i64 r3, .int .u16 v0, .int .u16 v1, .int .u16 v2, .int .u16 v3, .int .u8 ix] 61)).alloc (.cells #[.int .i64 vx0, .int .i64 vy0, .int .i64 vx1, .int .i64 vy1, .int .i64 (vb : Int), .bool true] 58)) = Wb at *
              by_cases hI : Insd vx0 vy0 vx1 vy1 x y
              · have HIn := Lib.hid hI
                clear hI
                refine (insd_any vx0 vy0 vx1 vy1 x y true (by simp [HIn.out]) _).mono ?_
                rintro e w5 ⟨rfl, hb5⟩
                have bw5 : Below wr.heap.size wr w5 := bw.trans (hb5.mono bw.size)
                replace g2 := cell_kept g2 hb5
                replace g3 := cell_kept g3 hb5
                replace g12 := cell_kept g12 hb5
                replace f0 := cell_kept f0 hb5
                replace f1 := cell_kept f1 hb5
                replace f2 := cell_kept f2 hb5
                replace f3 := cell_kept f3 hb5
                replace f4 := cell_kept f4 hb5
                replace f5 := cell_kept f5 hb5
                replace d4 := cell_kept d4 hb5
                have HI5 := Lib.hid (HI.out.next bw5)
                clear hb5
                obtain ⟨kk, hkk, hkn, hpl⟩ := hit_place (p := ⟨0, (i : Int), x, y, r0, r1, r2, r3, v0, v1, v2, v3, ix⟩) HGV.out ⟨rfl, HIn.out⟩
                simp only [] at hkk hkn hpl
                have hpr := HGV.out.2.1.prods HIn.out
                simp only [] at hpr
                obtain ⟨p1, p2⟩ : -2305843009213693952 ≤ (y - vy0) * s ∧ (y - vy0) * s ≤ 2305843009213693952 := by omega
                obtain ⟨b1, b2, b3, b4⟩ := near_point HGV.out.2.1 HIn.out
                simp only [] at b1 b2 b3 b4
                obtain ⟨bp, ms, hA3, hbb, hmb, hms, hmc, htk⟩ := own_block HI5.out.pix (by omega)
                have HKK := Lib.hid hkk
                have HPL := Lib.hid hpl
                have HKN := Lib.hid hkn
                have HMB := Lib.hid hmb
                obtain ⟨kq, hkq⟩ : ∃ kq : Nat, kq = vb + kk := ⟨_, rfl⟩
                have HKQ := Lib.hid hkq
                have hw1 : IntKind.i64.wrap ((vb : Int) + (kk : Int)) = (kq : Int) := (IntWalk.i64_in _ (by have := HLn.out; omega)).trans (by omega)
                have hkl2 : (kq : Int) + 1 ≤ zs.length := by omega
                have hzl : (zs.length : Int) ≤ 140737488351232 := by have := HLn.out; omega
                clear hkk hkn hpl hpr hkq hmb htk hmc
                subst hA3
                have hbpl : bp < wr.heap.size := by
                  rcases HI.out.pix.2 with ⟨hv, _⟩ | ⟨g', cap, cur, hv, _, hh, _⟩
                  · cases hv
                  · injection hv with e1; injection e1 with e1; injection e1 with e1; subst e1; exact heap_lt hh
                have hbp2 : w.heap.size < bp := by omega
                have P0 : Below w5.heap.size w5 w5.drew := (Below.refl _ _).drew
                have hkL : kq < zs.length := by omega
                have hkL' : (kq : Int) < (zs.length : Int) := by omega
                have hk0 : (0 : Int) ≤ (kq : Int) := by omega
                have hk1 : ¬ (kq : Int) < 0 := by omega
                obtain ⟨uz, huz⟩ : ∃ u, ms[kq]? = some u := ⟨_, Array.getElem?_eq_getElem (by omega)⟩
                have z0 : w5.cell? ⟨bp, kq, none⟩ = some uz := (cell_of_row w5 bp _ _ _ _ HMB.out).trans huz
                have z0f := frozen_of_row w5 bp kq _ _ HMB.out
                clear huz
                have hx1 : wr.heap.size ≠ bp := by omega
                have hx2 : wr.heap.size + 1 ≠ bp := by omega
                have hx3 : w.heap.size ≠ bp := by omega
                have toS : ∀ W' : World, Below w5.heap.size w5 W' → (W'.cell? ⟨wr.heap.size, 2, none⟩ = some (.int .i64 x) ∧ W'.cell? ⟨wr.heap.size, 3, none⟩ = some (.int .i64 y) ∧ W'.cell? ⟨wr.heap.size, 12, none⟩ = some (.int .u8 ix) ∧ W'.cell? ⟨wr.heap.size + 1, 0, none⟩ = some (.int .i64 vx0) ∧ W'.cell? ⟨wr.heap.size + 1, 1, none⟩ = some (.int .i64 vy0) ∧ W'.cell? ⟨wr.heap.size + 1, 2, none⟩ = some (.int .i64 vx1) ∧ W'.cell? ⟨wr.heap.size + 1, 3, none⟩ = some (.int .i64 vy1) ∧ W'.cell? ⟨wr.heap.size + 1, 4, none⟩ = some (.int .i64 (vb : Int)) ∧ W'.cell? ⟨w.heap.size, 4, none⟩ = some (.int .i64 s)) := fun W' h => ⟨cell_kept g2 h, cell_kept g3 h, cell_kept g12 h, cell_kept f0 h, cell_kept f1 h, cell_kept f2 h, cell_kept f3 h, cell_kept f4 h, cell_kept d4 h⟩
                have TOS := Lib.hid toS
                clear toS
                go_wp2_with fail
                refine wp_region_held_drew (S := fun w' => w'.cell? ⟨wr.heap.size, 2, none⟩ = some (.int .i64 x) ∧ w'.cell? ⟨wr.heap.size, 3, none⟩ = some (.int .i64 y) ∧ w'.cell? ⟨wr.heap.size, 12, none⟩ = some (.int .u8 ix) ∧ w'.cell? ⟨wr.heap.size + 1, 0, none⟩ = some (.int .i64 vx0) ∧ w'.cell? ⟨wr.heap.size + 1, 1, none⟩ = some (.int .i64 vy0) ∧ w'.cell? ⟨wr.heap.size + 1, 2, none⟩ = some (.int .i64 vx1) ∧ w'.cell? ⟨wr.heap.size + 1, 3, none⟩ = some (.int .i64 vy1) ∧ w'.cell? ⟨wr.heap.size + 1, 4, none⟩ = some (.int .i64 (vb : Int)) ∧ w'.cell? ⟨w.heap.size, 4, none⟩ = some (.int .i64 s)) (by kernel_rfl) ?_ (fun hHeld => ?_)
                · (refine TOS.out _ ?_; first | with_reducible exact P1 | with_reducible exact P0)
                refine wpAnyH_take (i := 0) (oi := _) (v := ?v0) rfl (by kernel_rfl) (by kernel_rfl) (by kernel_rfl) (fun _ _ _ h => h) (Or.inl ⟨by rfl, ?hy0⟩) (by assumption) ?rest0
                case hy0 => (intro w hSw; (try dsimp only at hSw); go_simp <;> with_reducible rfl)
                try simp only [Act.put, List.getElem_toArray, List.getElem_cons_succ, List.getElem_cons_zero, List.setIfInBounds_toArray, List.set_cons_zero, List.set_cons_succ]
                refine wpAnyH_take (i := 1) (oi := _) (v := ?v1) rfl (by kernel_rfl) (by kernel_rfl) (by kernel_rfl) (fun _ _ _ h => h) (Or.inl ⟨by rfl, ?hy1⟩) (by assumption) ?rest1
                case hy1 => (intro w hSw; (try dsimp only at hSw); go_simp <;> with_reducible rfl)
                try simp only [Act.put, List.getElem_toArray, List.getElem_cons_succ, List.getElem_cons_zero, List.setIfInBounds_toArray, List.set_cons_zero, List.set_cons_succ]
                refine wpAnyH_take (i := 2) (oi := _) (v := ?v2) rfl (by kernel_rfl) (by kernel_rfl) (by kernel_rfl) (fun _ _ _ h => h) (Or.inl ⟨by rfl, ?hy2⟩) (by assumption) ?rest2
                case hy2 => (intro w hSw; (try dsimp only at hSw); go_simp <;> with_reducible rfl)
                try simp only [Act.put, List.getElem_toArray, List.getElem_cons_succ, List.getElem_cons_zero, List.setIfInBounds_toArray, List.set_cons_zero, List.set_cons_succ]
                refine wpAnyH_take (i := 3) (oi := _) (v := ?v3) rfl (by kernel_rfl) (by kernel_rfl) (by kernel_rfl) (fun _ _ _ h => h) (Or.inl ⟨by rfl, ?hy3⟩) (by assumption) ?rest3
                case hy3 => (intro w hSw; (try dsimp only at hSw); go_simp <;> with_reducible rfl)
                try simp only [Act.put, List.getElem_toArray, List.getElem_cons_succ, List.getElem_cons_zero, List.setIfInBounds_toArray, List.set_cons_zero, List.set_cons_succ]
                refine wpAnyH_take (i := 4) (oi := _) (v := ?v4) rfl (by kernel_rfl) (by kernel_rfl) (by kernel_rfl) (fun _ _ _ h => h) (Or.inl ⟨by rfl, ?hy4⟩) (by assumption) ?rest4
                case hy4 => (intro w hSw; (try dsimp only at hSw); go_simp <;> with_reducible rfl)
                try simp only [Act.put, List.getElem_toArray, List.getElem_cons_succ, List.getElem_cons_zero, List.setIfInBounds_toArray, List.set_cons_zero, List.set_cons_succ]
                refine wpAnyH_take (i := 5) (oi := _) (v := ?v5) rfl (by kernel_rfl) (by kernel_rfl) (by kernel_rfl) (fun _ _ _ h => h) (Or.inl ⟨by rfl, ?hy5⟩) (by assumption) ?rest5
                case hy5 => (intro w hSw; (try dsimp only at hSw); go_simp <;> with_reducible rfl)
                try simp only [Act.put, List.getElem_toArray, List.getElem_cons_succ, List.getElem_cons_zero, List.setIfInBounds_toArray, List.set_cons_zero, List.set_cons_succ]
                refine wpAnyH_take (i := 6) (oi := _) (v := ?v6) rfl (by kernel_rfl) (by kernel_rfl) (by kernel_rfl) (fun _ _ _ h => h) (Or.inl ⟨by rfl, ?hy6⟩) (by assumption) ?rest6
                case hy6 => (intro w hSw; (try dsimp only at hSw); go_simp <;> with_reducible rfl)
                try simp only [Act.put, List.getElem_toArray, List.getElem_cons_succ, List.getElem_cons_zero, List.setIfInBounds_toArray, List.set_cons_zero, List.set_cons_succ]
                refine wpAnyH_take (i := 7) (oi := _) (v := ?v7) rfl (by kernel_rfl) (by kernel_rfl) (by kernel_rfl) (fun _ _ _ h => h) (Or.inl ⟨by rfl, ?hy7⟩) (by assumption) ?rest7
                case hy7 => (intro w hSw; (try dsimp only at hSw); go_simp <;> with_reducible rfl)
                try simp only [Act.put, List.getElem_toArray, List.getElem_cons_succ, List.getElem_cons_zero, List.setIfInBounds_toArray, List.set_cons_zero, List.set_cons_succ]
                refine wpAnyH_take (i := 8) (oi := _) (v := ?v8) rfl (by kernel_rfl) (by kernel_rfl) (by kernel_rfl) (fun _ _ _ h => h) (Or.inl ⟨by rfl, ?hy8⟩) (by assumption) ?rest8
                case hy8 => (intro w hSw; (try dsimp only at hSw); go_simp <;> with_reducible rfl)
                try simp only [Act.put, List.getElem_toArray, List.getElem_cons_succ, List.getElem_cons_zero, List.setIfInBounds_toArray, List.set_cons_zero, List.set_cons_succ]
                refine wpAnyH_take (i := 9) (oi := _) (v := ?v9) rfl (by kernel_rfl) (by kernel_rfl) (by kernel_rfl) (fun _ _ _ h => h) (Or.inl ⟨by rfl, ?hy9⟩) (by assumption) ?rest9
                case hy9 => (intro w hSw; (try dsimp only at hSw); go_simp <;> with_reducible rfl)
                try simp only [Act.put, List.getElem_toArray, List.getElem_cons_succ, List.getElem_cons_zero, List.setIfInBounds_toArray, List.set_cons_zero, List.set_cons_succ]
                refine wpAnyH_take (i := 10) (oi := _) (v := ?v10) rfl (by kernel_rfl) (by kernel_rfl) (by kernel_rfl) (fun _ _ _ h => h) (Or.inl ⟨by rfl, ?hy10⟩) (by assumption) ?rest10
                case hy10 => (intro w hSw; (try dsimp only at hSw); go_simp <;> with_reducible rfl)
                try simp only [Act.put, List.getElem_toArray, List.getElem_cons_succ, List.getElem_cons_zero, List.setIfInBounds_toArray, List.set_cons_zero, List.set_cons_succ]
                refine wpAnyH_take (i := 13) (oi := _) (v := ?v13) rfl (by kernel_rfl) (by kernel_rfl) (by kernel_rfl) (fun _ _ _ h => h) (Or.inl ⟨by rfl, ?hy13⟩) (by assumption) ?rest13
                case hy13 => (intro w hSw; (try dsimp only at hSw); go_simp <;> with_reducible rfl)
                try simp only [Act.put, List.getElem_toArray, List.getElem_cons_succ, List.getElem_cons_zero, List.setIfInBounds_toArray, List.set_cons_zero, List.set_cons_succ]
                refine wpAnyH_take (i := 14) (oi := _) (v := ?v14) rfl (by kernel_rfl) (by kernel_rfl) (by kernel_rfl) (fun _ _ _ h => h) (Or.inl ⟨by rfl, ?hy14⟩) (by assumption) ?rest14
                case hy14 => (intro w hSw; (try dsimp only at hSw); go_simp <;> with_reducible rfl)
                try simp only [Act.put, List.getElem_toArray, List.getElem_cons_succ, List.getElem_cons_zero, List.setIfInBounds_toArray, List.set_cons_zero, List.set_cons_succ]
                refine wpAnyH_ready (rs := [11]) (by kernel_rfl) (by simp) ?_
                refine AllReadyH.cons (o := _) rfl (fun K hK => ?_) AllReadyH.nil
                go_simp
                (go_at_call 38; refine (offs_any vx0 vy0 vx1 vy1 s x y _ b1 b2 b3 b4 p1 p2).mono ?_; rintro e u1 ⟨rfl, hv1⟩; rw [HKK.out]; have P1 : Below w5.heap.size w5 u1 := P0.trans (hv1.mono P0.size); have HMB1 := Lib.hid (heap_kept HMB.out P1); have HI6 := Lib.hid (HI5.out.next P1); have z1f := frozenK z0 z0f P1; have z1 := cell_kept z0 P1)
                refine hK.out _ _ ?_ (fun hHeld => ?_)
                · (refine TOS.out _ ?_; first | with_reducible exact P1 | with_reducible exact P0)
                clear hK K
                try simp only [Act.put, List.getElem_toArray, List.getElem_cons_succ, List.getElem_cons_zero, List.setIfInBounds_toArray, List.set_cons_zero, List.set_cons_succ]
                refine wpAnyH_take (i := 12) (oi := _) (v := ?v12) rfl (by kernel_rfl) (by kernel_rfl) (by kernel_rfl) (fun _ _ _ h => h) (Or.inl ⟨by rfl, ?hy12⟩) (by assumption) ?rest12
                case hy12 => (intro w hSw; (try dsimp only at hSw); go_simp <;> with_reducible rfl)
                try simp only [Act.put, List.getElem_toArray, List.getElem_cons_succ, List.getElem_cons_zero, List.setIfInBounds_toArray, List.set_cons_zero, List.set_cons_succ]
                refine wpAnyH_take (i := 15) (oi := _) (v := ?v15) rfl (by kernel_rfl) (by kernel_rfl) (by kernel_rfl) (fun _ _ _ h => h) (Or.inl ⟨by rfl, ?hy15⟩) (by assumption) ?rest15
                case hy15 => (intro w hSw; (try dsimp only at hSw); go_simp <;> with_reducible rfl)
                try simp only [Act.put, List.getElem_toArray, List.getElem_cons_succ, List.getElem_cons_zero, List.setIfInBounds_toArray, List.set_cons_zero, List.set_cons_succ]
                refine wpAnyH_ready (rs := [16]) (by kernel_rfl) (by simp) ?_
                refine AllReadyH.cons (o := _) rfl (fun K hK => ?_) AllReadyH.nil
                go_simp
                refine hK.out _ _ ?_ (fun hHeld => ?_)
                · (obtain ⟨s0, s1, s2, s3, s4, s5, s6, s7, s8⟩ := TOS.out _ P1; exact ⟨set_other hx1 s0, set_other hx1 s1, set_other hx1 s2, set_other hx2 s3, set_other hx2 s4, set_other hx2 s5, set_other hx2 s6, set_other hx2 s7, set_other hx3 s8⟩)
                clear hK K
                try simp only [Act.put, List.getElem_toArray, List.getElem_cons_succ, List.getElem_cons_zero, List.setIfInBounds_toArray, List.set_cons_zero, List.set_cons_succ]
                refine wpAnyH_done (by kernel_rfl) ?_ _
                have hb2 : (u1.setCell ⟨bp, kq, none⟩ (.int .u8 ix)).heap[bp]? = some (.cells (ms.setIfInBounds kq (.int .u8 ix)) 5 (0, 0)) := heap_setCell_same _ _ _ _ _ _ HMB1.out
                have hgr2 : u1.grownBy (u1.setCell ⟨bp, kq, none⟩ (.int .u8 ix)) (some bp) := grown_setCell (g := bp) (p := ⟨bp, kq, none⟩) (grown_of (row := some bp) (Below.refl _ _)) (Or.inl rfl) _
                have HI7 : Hid (LawInv W0 (some ⟨bp, 0, none⟩) zs.length c3 gv cv n (runG s (zs, [firstV x0 y0 x1 y1]) (l.take (k + 1))) (u1.setCell ⟨bp, kq, none⟩ (.int .u8 ix))) := by
                  unfold Hid
                  rw [runG_snoc s _ l HP.out, stepG_set s _ _ hi0 (by rw [← HI.out.len]; exact hin) rfl]
                  show LawInv W0 (some ⟨bp, 0, none⟩) zs.length c3 gv cv n (setV s (runG s (zs, [firstV x0 y0 x1 y1]) (l.take k)).1 ((runG s (zs, [firstV x0 y0 x1 y1]) (l.take k)).2.getD i zeroV) _, (runG s (zs, [firstV x0 y0 x1 y1]) (l.take k)).2) _
                  rw [HV.out]
                  unfold setV
                  rw [if_pos ⟨rfl, HIn.out⟩, HPL.out, ← HKQ.out]
                  exact HI6.out.written hgr2 (own_set1 HI6.out.pix HMB1.out hb2)
                generalize (u1.setCell ⟨bp, kq, none⟩ (.int .u8 ix)) = u2 at *
                clear hb2 hgr2 z0 z0f z1 z1f
                go_wp2
                go_roundw
                case rel => exact ⟨k + 1, n, gv, cv, by omega, by omega, by go_num, rfl, HI7⟩
                case measure => simp [intOf]; omega
              · have HIn := Lib.hid hI
                clear hI
                refine (insd_any vx0 vy0 vx1 vy1 x y false (by simp [HIn.out]) _).mono ?_
                rintro e w5 ⟨rfl, hb5⟩
                have bw5 : Below wr.heap.size wr w5 := bw.trans (hb5.mono bw.size)
                clear hb5
                go_wp2
                go_roundw
                case rel => exact ⟨k + 1, n, gv, cv, by omega, by omega, by go_num, rfl, HNE.out _ bw5 (Or.inr ⟨(by first | rfl | trivial), fun h => HIn.out h.2⟩)⟩
                case measure => simp [intOf]; omega
          · have hop0 : (op == 0) = false := by simpa using hop
            by_cases hop1 : op = 1
            · subst hop1
              go_wp2_with fail
              have bw : Below wr.heap.size wr ((wr.alloc (.cells #[.int .i64 1, .int .i64 (i : Int), .int .i64 x, .int .i64 y, .int .i64 r0, .int .i64 r1, .int .i64 r2, .int .i64 r3, .int .u16 v0, .int .u16 v1, .int .u16 v2, .int .u16 v3, .int .u8 ix] 61)).alloc (.cells #[.int .i64 vx0, .int .i64 vy0, .int .i64 vx1, .int .i64 vy1, .int .i64 (vb : Int), .bool von] 58)) := ((Below.refl _ _).alloc (Nat.le_refl _) _).trans (((Below.refl _ _).alloc (Nat.le_refl _) _).mono (by simp))
              have g4 : ((wr.alloc (.cells #[.int .i64 1, .int .i64 (i : Int), .int .i64 x, .int .i64 y, .int .i64 r0, .int .i64 r1, .int .i64 r2, .int .i64 r3, .int .u16 v0, .int .u16 v1, .int .u16 v2, .int .u16 v3, .int .u8 ix] 61)).alloc (.cells #[.int .i64 vx0, .int .i64 vy0, .int .i64 vx1, .int .i64 vy1, .int .i64 (vb : Int), .bool von] 58)).cell? ⟨wr.heap.size, 4, none⟩ = some (.int .i64 r0) := by first | (simp; done) | go_simp
              have g5 : ((wr.alloc (.cells #[.int .i64 1, .int .i64 (i : Int), .int .i64 x, .int .i64 y, .int .i64 r0, .int .i64 r1, .int .i64 r2, .int .i64 r3, .int .u16 v0, .int .u16 v1, .int .u16 v2, .int .u16 v3, .int .u8 ix] 61)).alloc (.cells #[.int .i64 vx0, .int .i64 vy0, .int .i64 vx1, .int .i64 vy1, .int .i64 (vb : Int), .bool von] 58)).cell? ⟨wr.heap.size, 5, none⟩ = some (.int .i64 r1) := by first | (simp; done) | go_simp
              have g6 : ((wr.alloc (.cells #[.int .i64 1, .int .i64 (i : Int), .int .i64 x, .int .i64 y, .int .i64 r0, .int .i64 r1, .int .i64 r2, .int .i64 r3, .int .u16 v0, .int .u16 v1, .int .u16 v2, .int .u16 v3, .int .u8 ix] 61)).alloc (.cells #[.int .i64 vx0, .int .i64 vy0, .int .i64 vx1, .int .i64 vy1, .int .i64 (vb : Int), .bool von] 58)).cell? ⟨wr.heap.size, 6, none⟩ = some (.int .i64 r2) := by first | (simp; done) | go_simp
              have g7 : ((wr.alloc (.cells #[.int .i64 1, .int .i64 (i : Int), .int .i64 x, .int .i64 y, .int .i64 r0, .int .i64 r1, .int .i64 r2, .int .i64 r3, .int .u16 v0, .int .u16 v1, .int .u16 v2, .int .u16 v3, .int .u8 ix] 61)).alloc (.cells #[.int .i64 vx0, .int .i64 vy0, .int .i64 vx1, .int .i64 vy1, .int .i64 (vb : Int), .bool von] 58)).cell? ⟨wr.heap.size, 7, none⟩ = some (.int .i64 r3) := by first | (simp; done) | go_simp
              have f0 : ((wr.alloc (.cells #[.int .i64 1, .int .i64 (i : Int), .int .i64 x, .int .i64 y, .int .i64 r0, .int .i64 r1, .int .i64 r2, .int .i64 r3, .int .u16 v0, .int .u16 v1, .int .u16 v2, .int .u16 v3, .int .u8 ix] 61)).alloc (.cells #[.int .i64 vx0, .int .i64 vy0, .int .i64 vx1, .int .i64 vy1, .int .i64 (vb : Int), .bool von] 58)).cell? ⟨wr.heap.size + 1, 0, none⟩ = some (.int .i64 vx0) := by first | (simp; done) | go_simp
              have f1 : ((wr.alloc (.cells #[.int .i64 1, .int .i64 (i : Int), .int .i64 x, .int .i64 y, .int .i64 r0, .int .i64 r1, .int .i64 r2, .int .i64 r3, .int .u16 v0, .int .u16 v1, .int .u16 v2, .int .u16 v3, .int .u8 ix] 61)).alloc (.cells #[.int .i64 vx0, .int .i64 vy0, .int .i64 vx1, .int .i64 vy1, .int .i64 (vb : Int), .bool von] 58)).cell? ⟨wr.heap.size + 1, 1, none⟩ = some (.int .i64 vy0) := by first | (simp; done) | go_simp
              have f2 : ((wr.alloc (.cells #[.int .i64 1, .int .i64 (i : Int), .int .i64 x, .int .i64 y, .int .i64 r0, .int .i64 r1, .int .i64 r2, .int .i64 r3, .int .u16 v0, .int .u16 v1, .int .u16 v2, .int .u16 v3, .int .u8 ix] 61)).alloc (.cells #[.int .i64 vx0, .int .i64 vy0, .int .i64 vx1, .int .i64 vy1, .int .i64 (vb : Int), .bool von] 58)).cell? ⟨wr.heap.size + 1, 2, none⟩ = some (.int .i64 vx1) := by first | (simp; done) | go_simp
              have f3 : ((wr.alloc (.cells #[.int .i64 1, .int .i64 (i : Int), .int .i64 x, .int .i64 y, .int .i64 r0, .int .i64 r1, .int .i64 r2, .int .i64 r3, .int .u16 v0, .int .u16 v1, .int .u16 v2, .int .u16 v3, .int .u8 ix] 61)).alloc (.cells #[.int .i64 vx0, .int .i64 vy0, .int .i64 vx1, .int .i64 vy1, .int .i64 (vb : Int), .bool von] 58)).cell? ⟨wr.heap.size + 1, 3, none⟩ = some (.int .i64 vy1) := by first | (simp; done) | go_simp
              have f4 : ((wr.alloc (.cells #[.int .i64 1, .int .i64 (i : Int), .int .i64 x, .int .i64 y, .int .i64 r0, .int .i64 r1, .int .i64 r2, .int .i64 r3, .int .u16 v0, .int .u16 v1, .int .u16 v2, .int .u16 v3, .int .u8 ix] 61)).alloc (.cells #[.int .i64 vx0, .int .i64 vy0, .int .i64 vx1, .int .i64 vy1, .int .i64 (vb : Int), .bool von] 58)).cell? ⟨wr.heap.size + 1, 4, none⟩ = some (.int .i64 (vb : Int)) := by first | (simp; done) | go_simp
              have f5 : ((wr.alloc (.cells #[.int .i64 1, .int .i64 (i : Int), .int .i64 x, .int .i64 y, .int .i64 r0, .int .i64 r1, .int .i64 r2, .int .i64 r3, .int .u16 v0, .int .u16 v1, .int .u16 v2, .int .u16 v3, .int .u8 ix] 61)).alloc (.cells #[.int .i64 vx0, .int .i64 vy0, .int .i64 vx1, .int .i64 vy1, .int .i64 (vb : Int), .bool von] 58)).cell? ⟨wr.heap.size + 1, 5, none⟩ = some (.bool von) := by first | (simp; done) | go_simp
              have d4 := cell_kept (cell_kept D4 HI.out.below) bw
              generalize ((wr.alloc (.cells #[.int .i64 1, .int .i64 (i : Int), .int .i64 x, .int .i64 y, .int .i64 r0, .int .i64 r1, .int .i64 r2, .int .i64 r3, .int .u16 v0, .int .u16 v1, .int .u16 v2, .int .u16 v3, .int .u8 ix] 61)).alloc (.cells #[.int .i64 vx0, .int .i64 vy0, .int .i64 vx1, .int .i64 vy1, .int .i64 (vb : Int), .bool von] 58)) = Wb at *
              have HIb := Lib.hid (HI.out.next bw)
              have hgb : gv < Wb.heap.size := Nat.lt_of_lt_of_le hgl bw.size
              have hgw : w.heap.size < gv := by have := (HI.out.views.lt gv rfl).1; omega
              have P0 : Below Wb.heap.size Wb Wb.drew := (Below.refl _ _).drew
              obtain ⟨nv, hnv⟩ : ∃ nv, seenV s ⟨vx0, vy0, vx1, vy1, vb, von⟩ ⟨1, (i : Int), x, y, r0, r1, r2, r3, v0, v1, v2, v3, ix⟩ = nv := ⟨_, rfl⟩
              have HNV := Lib.hid hnv
              clear hnv
              have hseen := fun (W : World) => seen_any ⟨vx0, vy0, vx1, vy1, vb, von⟩ s ⟨1, (i : Int), x, y, r0, r1, r2, r3, v0, v1, v2, v3, ix⟩ zs.length HGV.out HLn.out W
              rw [HNV.out] at hseen
              have HSN := Lib.hid hseen
              clear hseen
              have H63 : Hid (n + 1 ≤ maxLen) := by unfold Hid maxLen; omega
              have HBY : Hid ((n + 1) * 48 ≤ 140737488355328) := by unfold Hid; omega
              have HONE := Lib.hid (one6v nv)
              have toS : ∀ W' : World, Below Wb.heap.size Wb W' → (W'.cell? ⟨wr.heap.size, 4, none⟩ = some (.int .i64 r0) ∧ W'.cell? ⟨wr.heap.size, 5, none⟩ = some (.int .i64 r1) ∧ W'.cell? ⟨wr.heap.size, 6, none⟩ = some (.int .i64 r2) ∧ W'.cell? ⟨wr.heap.size, 7, none⟩ = some (.int .i64 r3) ∧ W'.cell? ⟨wr.heap.size + 1, 0, none⟩ = some (.int .i64 vx0) ∧ W'.cell? ⟨wr.heap.size + 1, 1, none⟩ = some (.int .i64 vy0) ∧ W'.cell? ⟨wr.heap.size + 1, 2, none⟩ = some (.int .i64 vx1) ∧ W'.cell? ⟨wr.heap.size + 1, 3, none⟩ = some (.int .i64 vy1) ∧ W'.cell? ⟨wr.heap.size + 1, 4, none⟩ = some (.int .i64 (vb : Int)) ∧ W'.cell? ⟨wr.heap.size + 1, 5, none⟩ = some (.bool von) ∧ W'.cell? ⟨w.heap.size, 4, none⟩ = some (.int .i64 s)) := fun W' h => ⟨cell_kept g4 h, cell_kept g5 h, cell_kept g6 h, cell_kept g7 h, cell_kept f0 h, cell_kept f1 h, cell_kept f2 h, cell_kept f3 h, cell_kept f4 h, cell_kept f5 h, cell_kept d4 h⟩
              have TOS := Lib.hid toS
              clear toS
              go_region_held3 (fun w' => w'.cell? ⟨wr.heap.size, 4, none⟩ = some (.int .i64 r0) ∧ w'.cell? ⟨wr.heap.size, 5, none⟩ = some (.int .i64 r1) ∧ w'.cell? ⟨wr.heap.size, 6, none⟩ = some (.int .i64 r2) ∧ w'.cell? ⟨wr.heap.size, 7, none⟩ = some (.int .i64 r3) ∧ w'.cell? ⟨wr.heap.size + 1, 0, none⟩ = some (.int .i64 vx0) ∧ w'.cell? ⟨wr.heap.size + 1, 1, none⟩ = some (.int .i64 vy0) ∧ w'.cell? ⟨wr.heap.size + 1, 2, none⟩ = some (.int .i64 vx1) ∧ w'.cell? ⟨wr.heap.size + 1, 3, none⟩ = some (.int .i64 vy1) ∧ w'.cell? ⟨wr.heap.size + 1, 4, none⟩ = some (.int .i64 (vb : Int)) ∧ w'.cell? ⟨wr.heap.size + 1, 5, none⟩ = some (.bool von) ∧ w'.cell? ⟨w.heap.size, 4, none⟩ = some (.int .i64 s))
                (first | (refine TOS.out _ ?_; first | with_reducible exact P2 | with_reducible exact P2.alloc P2.size _ | with_reducible exact P1 | with_reducible exact P0) | with_reducible exact S4)
                (first | (go_at_call 20; refine (box_any r0 r1 r2 r3 _).mono ?_; rintro e u1 ⟨rfl, hv1⟩; have P1 : Below Wb.heap.size Wb u1 := P0.trans (hv1.mono P0.size)) | (go_at_call 39; refine (HSN.out _).mono ?_; rintro e u2 ⟨rfl, hv2⟩; have P2 : Below Wb.heap.size Wb u2 := P1.trans (hv2.mono P1.size); have HI2 := Lib.hid ((HIb.out.next P2).next ((Below.refl u2.heap.size u2).alloc (Nat.le_refl _) (.cells #[.int .i64 nv.x0, .int .i64 nv.y0, .int .i64 nv.x1, .int .i64 nv.y1, .int .i64 (nv.base : Int), .bool nv.on] 58))); have HOW := Lib.hid HI2.out.views; have HSZ := Lib.hid HI2.out.below.size; have HNW : Hid (∀ (j : Nat) (u : Value), (viewV nv)[j]? = some u → (u2.alloc (.cells #[.int .i64 nv.x0, .int .i64 nv.y0, .int .i64 nv.x1, .int .i64 nv.y1, .int .i64 (nv.base : Int), .bool nv.on] 58)).cell? ((⟨u2.heap.size, 0, none⟩ : Addr).add j) = some u) := newsV6; have HHH : Hid ((u2.alloc (.cells #[.int .i64 nv.x0, .int .i64 nv.y0, .int .i64 nv.x1, .int .i64 nv.y1, .int .i64 (nv.base : Int), .bool nv.on] 58)).heap.size = u2.heap.size + 1) := (by unfold Hid; simp); have S3 := TOS.out _ (P2.alloc P2.size (.cells #[.int .i64 nv.x0, .int .i64 nv.y0, .int .i64 nv.x1, .int .i64 nv.y1, .int .i64 (nv.base : Int), .bool nv.on] 58))) | (refine step_append_lies _ (by rfl) _ _ 59 (by rfl) W0.heap.size 58 i6 (.agg #[.int .i64 0, .int .i64 0, .int .i64 0, .int .i64 0, .int .i64 0, .bool false]) 6 48 Try.underlying59 hi6 hy0 hy1 hy2 rfl (by decide) (.slice (some ⟨gv, 0, none⟩) n cv) n ((runG s (zs, [firstV x0 y0 x1 y1]) (l.take k)).2.flatMap viewV) (by rfl) HOW.out ⟨u2.heap.size, 0, none⟩ 1 1 (viewV nv) (by rfl) rfl HNW.out HONE.out (by decide) H63.out HBY.out HSZ.out (u2.heap.size + 1) HHH.out ?_; intro gv' cv' w4 hown4 hgr4 hat4 hlt4; have S4 : w4.cell? ⟨wr.heap.size, 4, none⟩ = some (.int .i64 r0) ∧ w4.cell? ⟨wr.heap.size, 5, none⟩ = some (.int .i64 r1) ∧ w4.cell? ⟨wr.heap.size, 6, none⟩ = some (.int .i64 r2) ∧ w4.cell? ⟨wr.heap.size, 7, none⟩ = some (.int .i64 r3) ∧ w4.cell? ⟨wr.heap.size + 1, 0, none⟩ = some (.int .i64 vx0) ∧ w4.cell? ⟨wr.heap.size + 1, 1, none⟩ = some (.int .i64 vy0) ∧ w4.cell? ⟨wr.heap.size + 1, 2, none⟩ = some (.int .i64 vx1) ∧ w4.cell? ⟨wr.heap.size + 1, 3, none⟩ = some (.int .i64 vy1) ∧ w4.cell? ⟨wr.heap.size + 1, 4, none⟩ = some (.int .i64 (vb : Int)) ∧ w4.cell? ⟨wr.heap.size + 1, 5, none⟩ = some (.bool von) ∧ w4.cell? ⟨w.heap.size, 4, none⟩ = some (.int .i64 s) := ⟨grown_cellR hgr4 S3.1 (by simp [Value.ownBlock]; omega), grown_cellR hgr4 S3.2.1 (by simp [Value.ownBlock]; omega), grown_cellR hgr4 S3.2.2.1 (by simp [Value.ownBlock]; omega), grown_cellR hgr4 S3.2.2.2.1 (by simp [Value.ownBlock]; omega), grown_cellR hgr4 S3.2.2.2.2.1 (by simp [Value.ownBlock]; omega), grown_cellR hgr4 S3.2.2.2.2.2.1 (by simp [Value.ownBlock]; omega), grown_cellR hgr4 S3.2.2.2.2.2.2.1 (by simp [Value.ownBlock]; omega), grown_cellR hgr4 S3.2.2.2.2.2.2.2.1 (by simp [Value.ownBlock]; omega), grown_cellR hgr4 S3.2.2.2.2.2.2.2.2.1 (by simp [Value.ownBlock]; omega), grown_cellR hgr4 S3.2.2.2.2.2.2.2.2.2.1 (by simp [Value.ownBlock]; omega), grown_cellR hgr4 S3.2.2.2.2.2.2.2.2.2.2 (by simp [Value.ownBlock]; omega)⟩))
              have HI7 : Hid (LawInv W0 A3 zs.length c3 gv' cv' (n + 1) (runG s (zs, [firstV x0 y0 x1 y1]) (l.take (k + 1))) w4) := by
                unfold Hid
                rw [runG_snoc s _ l HP.out, stepG_sub s _ _ hi0 (by rw [← HI.out.len]; exact hin) rfl]
                show LawInv W0 A3 zs.length c3 gv' cv' (n + 1) ((runG s (zs, [firstV x0 y0 x1 y1]) (l.take k)).1, (runG s (zs, [firstV x0 y0 x1 y1]) (l.take k)).2 ++ [seenV s ((runG s (zs, [firstV x0 y0 x1 y1]) (l.take k)).2.getD i zeroV) _]) w4
                rw [HV.out, HNV.out]
                exact HI2.out.more hown4 hgr4
              clear hown4 hgr4 hat4 hlt4 S4
              go_wp2
              go_roundw
              case rel => exact ⟨k + 1, n + 1, gv', cv', by omega, by omega, by go_num, rfl, HI7⟩
              case measure => simp [intOf]; omega
            · have hop1' : (op == 1) = false := by simpa using hop1
              go_wp2
              go_roundw
              case rel => exact ⟨k + 1, n, gv, cv, by omega, by omega, by go_num, rfl, HNE.out _ (((Below.refl _ _).alloc (Nat.le_refl _) _).trans (((Below.refl _ _).alloc (Nat.le_refl _) _).mono (by simp))) (Or.inl ⟨hop, hop1⟩)⟩
              case measure => simp [intOf]; omega
    · obtain rfl : k = l.length := by omega
      obtain ⟨st, hst⟩ : ∃ st, runG s (zs, [firstV x0 y0 x1 y1]) l = st := ⟨_, rfl⟩
      have HST := Lib.hid hst
      clear hst
      have HGO : Hid (GoodG s zs.length st) := by have h1 := HG.out l.length; rw [List.take_length, HST.out] at h1; exact h1
      replace HI : Hid (LawInv W0 A3 zs.length c3 gv cv n st wr) := by have h1 := HI.out; rw [List.take_length, HST.out] at h1; exact h1
      have d0 := cell_kept D0 HI.out.below
      have d1 := cell_kept D1 HI.out.below
      have d2 := cell_kept D2 HI.out.below
      have d3 := cell_kept D3 HI.out.below
      have d4 := cell_kept D4 HI.out.below
      have d5 := cell_kept D5 HI.out.below
      have d6 := cell_kept D6 HI.out.below
      have HR9 := Lib.hid ((hr.out.below hB).below HI.out.below)
      have HP9 := Lib.hid ((pr.out.below hB).below HI.out.below)
      have HQ9 := Lib.hid ((hQ.out.below hB).below HI.out.below)
      clear hkl hk HG
      go_wp2_with fail
      refine (implRun_any x0 y0 x1 y1 s A c zs Bp kb ps B cB l _ HR9 hy hl hn HP9 pl hF HQ9 hok hll st HST).mono ?_
      rintro e w9 ⟨go, oc, ds, rfl, hdl, hdeep, ⟨hcell, hread⟩, hb9⟩
      replace HI := Lib.hid (HI.out.next hb9)
      replace d4 := cell_kept d4 hb9
      have HDL : Hid (ds.length = n) := by unfold Hid; rw [hdl, ← HI.out.len]
      rw [HDL.out]
      have HDE := Lib.hid hdeep
      have HCE := Lib.hid hcell
      have HRE := Lib.hid hread
      have hB9 : Below w.heap.size w w9 := hB.trans (HI.out.below.mono hB.size)
      clear hdl hdeep hcell hread hb9 d0 d1 d2 d3 d5 d6 HR9 HP9 HQ9
      go_wp2
      go_loopw [111] (fun q wr => ∃ i : Nat, i ≤ n ∧ q = .int .i64 i ∧ Hid (Below w9.heap.size w9 wr)) (fun q _ => n - (intOf q).toNat)
      case atStart => exact ⟨0, Nat.zero_le _, rfl, show Hid _ from Below.refl _ _⟩
      case round =>
        obtain ⟨i, hi, rfl, HB⟩ := hrel
        by_cases hin : i < n
        · have hin' : (i : Int) < (n : Int) := by omega
          have hin0 : (0 : Int) ≤ (i : Int) := by omega
          have HIr := Lib.hid (HI.out.next HB.out)
          have hil : i < st.2.length := by rw [← HI.out.len]; exact hin
          have HGV : Hid (GoodV s zs.length (st.2.getD i zeroV)) := HGO.out.2.2.1 _ (mem_getD hil)
          obtain ⟨v, hv⟩ : ∃ v, st.2.getD i zeroV = v := ⟨_, rfl⟩
          have HV := Lib.hid hv
          rw [hv] at HGV
          obtain ⟨dd, hdd⟩ : ∃ dd, ds[i]? = some dd := ⟨_, List.getElem?_eq_getElem (by rw [HDL.out]; exact hin)⟩
          have HDO : Hid (DeepOf ps s st.1 i v dd) := HDE.out i dd v hdd (by rw [← hv, List.getD_eq_getElem?_getD, List.getElem?_eq_getElem hil]; rfl)
          have HRD := Lib.hid (HRE.out dd (List.mem_of_getElem? hdd))
          have HDD := Lib.hid hdd
          clear hv hdd hil
          obtain ⟨vx0, vy0, vx1, vy1, vb, von⟩ := v
          obtain ⟨X0, Y0, X1, Y1, S1, A1, c1, z1, Q1, l1, ps1⟩ := dd
          have e0 : wr.cell? ⟨gv, i * 6, none⟩ = some (.int .i64 vx0) := HIr.out.view hin (j := 0) (by rw [HV.out]; rfl)
          have e1 : wr.cell? ⟨gv, i * 6 + 1, none⟩ = some (.int .i64 vy0) := HIr.out.view hin (j := 1) (by rw [HV.out]; rfl)
          have e2 : wr.cell? ⟨gv, i * 6 + 2, none⟩ = some (.int .i64 vx1) := HIr.out.view hin (j := 2) (by rw [HV.out]; rfl)
          have e3 : wr.cell? ⟨gv, i * 6 + 3, none⟩ = some (.int .i64 vy1) := HIr.out.view hin (j := 3) (by rw [HV.out]; rfl)
          have e4 : wr.cell? ⟨gv, i * 6 + 4, none⟩ = some (.int .i64 (vb : Int)) := HIr.out.view hin (j := 4) (by rw [HV.out]; rfl)
          have e5 : wr.cell? ⟨gv, i * 6 + 5, none⟩ = some (.bool von) := HIr.out.view hin (j := 5) (by rw [HV.out]; rfl)
          have o0 : wr.cell? ⟨go, i * 7, none⟩ = some (.int .i64 X0) := cell_kept (HCE.out i _ HDD.out 0 _ rfl) HB.out
          have o1 : wr.cell? ⟨go, i * 7 + 1, none⟩ = some (.int .i64 Y0) := cell_kept (HCE.out i _ HDD.out 1 _ rfl) HB.out
          have o2 : wr.cell? ⟨go, i * 7 + 2, none⟩ = some (.int .i64 X1) := cell_kept (HCE.out i _ HDD.out 2 _ rfl) HB.out
          have o3 : wr.cell? ⟨go, i * 7 + 3, none⟩ = some (.int .i64 Y1) := cell_kept (HCE.out i _ HDD.out 3 _ rfl) HB.out
          have o4 : wr.cell? ⟨go, i * 7 + 4, none⟩ = some (.int .i64 S1) := cell_kept (HCE.out i _ HDD.out 4 _ rfl) HB.out
          have o5 : wr.cell? ⟨go, i * 7 + 5, none⟩ = some (.slice A1 z1.length c1) := cell_kept (HCE.out i _ HDD.out 5 _ rfl) HB.out
          have o6 : wr.cell? ⟨go, i * 7 + 6, none⟩ = some (.slice Q1 ps1.length l1) := cell_kept (HCE.out i _ HDD.out 6 _ rfl) HB.out
          have hgl : gv < wr.heap.size := block_lt_of_cell e0
          have hgol : go < wr.heap.size := block_lt_of_cell o0
          have hg1 : ¬ go = wr.heap.size := by omega
          have hg2 : ¬ wr.heap.size = go := by omega
          have d4r := cell_kept d4 HB.out
          cases von with
          | false =>
            have HEM : Hid (Empt X0 Y0 X1 Y1) := by
              have h1 := HDO.out
              unfold DeepOf at h1
              by_cases h2 : i = 0 ∨ (⟨vx0, vy0, vx1, vy1, vb, false⟩ : ViewD).on = true
              · rw [if_pos h2] at h1
                obtain ⟨f1, f2, f3, f4, _⟩ := h1
                simp only [] at f1 f2 f3 f4
                rw [f1, f2, f3, f4]
                exact (HGV.out.2.2.1 rfl).1
              · rw [if_neg h2] at h1
                obtain ⟨f1, f2, f3, f4, _⟩ := h1
                simp only [] at f1 f2 f3 f4
                rw [f1, f2, f3, f4]
                exact Or.inl (Int.le_refl _)
            go_wp2_with fail
            refine (box_any X0 Y0 X1 Y1 _).mono ?_
            rintro e u1 ⟨rfl, hv1⟩
            have Q1 : Below wr.heap.size wr u1 := ((Below.refl _ _).alloc (Nat.le_refl _) _).trans (hv1.mono (by simp))
            clear hv1
            go_wp2_with fail
            refine (empt_any X0 Y0 X1 Y1 true (by simp [HEM.out]) _).mono ?_
            rintro e u2 ⟨rfl, hv2⟩
            have HB2 := Lib.hid (HB.out.trans ((Q1.trans (hv2.mono Q1.size)).mono HB.out.size))
            clear hv2
            go_wp2
            go_roundw
            case rel => exact ⟨i + 1, by omega, by go_num, HB2⟩
            case measure => simp [intOf]; omega
          | true =>
            have hEQ := HDO.out
            unfold DeepOf at hEQ
            rw [if_pos (Or.inr rfl)] at hEQ
            obtain ⟨f1, f2, f3, f4, f5, f6, f7⟩ := hEQ
            obtain rfl : vx0 = X0 := f1.symm
            obtain rfl : vy0 = Y0 := f2.symm
            obtain rfl : vx1 = X1 := f3.symm
            obtain rfl : vy1 = Y1 := f4.symm
            obtain rfl : s = S1 := f5.symm
            obtain rfl : ps = ps1 := f7.symm
            have HZ : Hid (z1 = st.1.drop vb) := f6
            clear f1 f2 f3 f4 f5 f6 f7
            have HZL : Hid (z1.length + vb = zs.length) := by unfold Hid; rw [HZ.out, List.length_drop, HGO.out.1]; have := HGV.out.1; simp only [] at this; omega
            have HFz : Hid (Fits vx0 vy0 vx1 vy1 s 1 z1.length) := by unfold Hid; have h1 := HGV.out.2.1; simp only [] at h1; have h2 := HZL.out; rw [show zs.length - vb = z1.length by omega] at h1; exact h1
            have hlz : Small z1 := by unfold Small; have := HZL.out; have := HLn.out; omega
            have HYz : Hid (Bytes z1) := by unfold Hid; rw [HZ.out]; exact drop_bytes HGO.out.2.1 vb
            have HYp : Hid (Bytes st.1) := HGO.out.2.1
            have HNU : Hid (∀ m, z1.getD m 0 = st.1.getD (vb + m) 0) := fun m => by rw [HZ.out, getD_drop]
            go_wp2_with fail
            have bw : Below wr.heap.size wr (wr.alloc (.cells #[.int .i64 vx0, .int .i64 vy0, .int .i64 vx1, .int .i64 vy1, .int .i64 (vb : Int), .bool true] 58)) := ((Below.refl _ _).alloc (Nat.le_refl _) _)
            have f0 : (wr.alloc (.cells #[.int .i64 vx0, .int .i64 vy0, .int .i64 vx1, .int .i64 vy1, .int .i64 (vb : Int), .bool true] 58)).cell? ⟨wr.heap.size, 0, none⟩ = some (.int .i64 vx0) := by first | (simp; done) | go_simp
            have f1 : (wr.alloc (.cells #[.int .i64 vx0, .int .i64 vy0, .int .i64 vx1, .int .i64 vy1, .int .i64 (vb : Int), .bool true] 58)).cell? ⟨wr.heap.size, 1, none⟩ = some (.int .i64 vy0) := by first | (simp; done) | go_simp
            have f2 : (wr.alloc (.cells #[.int .i64 vx0, .int .i64 vy0, .int .i64 vx1, .int .i64 vy1, .int .i64 (vb : Int), .bool true] 58)).cell? ⟨wr.heap.size, 2, none⟩ = some (.int .i64 vx1) := by first | (simp; done) | go_simp
            have f3 : (wr.alloc (.cells #[.int .i64 vx0, .int .i64 vy0, .int .i64 vx1, .int .i64 vy1, .int .i64 (vb : Int), .bool true] 58)).cell? ⟨wr.heap.size, 3, none⟩ = some (.int .i64 vy1) := by first | (simp; done) | go_simp
            have f4 : (wr.alloc (.cells #[.int .i64 vx0, .int .i64 vy0, .int .i64 vx1, .int .i64 vy1, .int .i64 (vb : Int), .bool true] 58)).cell? ⟨wr.heap.size, 4, none⟩ = some (.int .i64 (vb : Int)) := by first | (simp; done) | go_simp
            have f5 : (wr.alloc (.cells #[.int .i64 vx0, .int .i64 vy0, .int .i64 vx1, .int .i64 vy1, .int .i64 (vb : Int), .bool true] 58)).cell? ⟨wr.heap.size, 5, none⟩ = some (.bool true) := by first | (simp; done) | go_simp
            replace o0 := cell_kept o0 bw
            replace o1 := cell_kept o1 bw
            replace o2 := cell_kept o2 bw
            replace o3 := cell_kept o3 bw
            replace o4 := cell_kept o4 bw
            replace o5 := cell_kept o5 bw
            replace o6 := cell_kept o6 bw
            replace d4r := cell_kept d4r bw
            generalize wr.alloc (.cells #[.int .i64 vx0, .int .i64 vy0, .int .i64 vx1, .int .i64 vy1, .int .i64 (vb : Int), .bool true] 58) = Wb at *
            have hB9b := Lib.hid (HB.out.trans (bw.mono HB.out.size))
            generalize wr.heap.size = bv at *
            have P0 : Below Wb.heap.size Wb Wb.drew := (Below.refl _ _).drew
            have toS : ∀ W' : World, Below Wb.heap.size Wb W' → (W'.cell? ⟨go, i * 7, none⟩ = some (.int .i64 vx0) ∧ W'.cell? ⟨go, i * 7 + 1, none⟩ = some (.int .i64 vy0) ∧ W'.cell? ⟨go, i * 7 + 2, none⟩ = some (.int .i64 vx1) ∧ W'.cell? ⟨go, i * 7 + 3, none⟩ = some (.int .i64 vy1) ∧ W'.cell? ⟨go, i * 7 + 4, none⟩ = some (.int .i64 s) ∧ W'.cell? ⟨go, i * 7 + 5, none⟩ = some (.slice A1 z1.length c1) ∧ W'.cell? ⟨go, i * 7 + 6, none⟩ = some (.slice Q1 ps.length l1) ∧ W'.cell? ⟨bv, 0, none⟩ = some (.int .i64 vx0) ∧ W'.cell? ⟨bv, 1, none⟩ = some (.int .i64 vy0) ∧ W'.cell? ⟨bv, 2, none⟩ = some (.int .i64 vx1) ∧ W'.cell? ⟨bv, 3, none⟩ = some (.int .i64 vy1)) := fun W' h => ⟨cell_kept o0 h, cell_kept o1 h, cell_kept o2 h, cell_kept o3 h, cell_kept o4 h, cell_kept o5 h, cell_kept o6 h, cell_kept f0 h, cell_kept f1 h, cell_kept f2 h, cell_kept f3 h⟩
            have TOS := Lib.hid toS
            clear toS
            go_region_held3 (fun w' => w'.cell? ⟨go, i * 7, none⟩ = some (.int .i64 vx0) ∧ w'.cell? ⟨go, i * 7 + 1, none⟩ = some (.int .i64 vy0) ∧ w'.cell? ⟨go, i * 7 + 2, none⟩ = some (.int .i64 vx1) ∧ w'.cell? ⟨go, i * 7 + 3, none⟩ = some (.int .i64 vy1) ∧ w'.cell? ⟨go, i * 7 + 4, none⟩ = some (.int .i64 s) ∧ w'.cell? ⟨go, i * 7 + 5, none⟩ = some (.slice A1 z1.length c1) ∧ w'.cell? ⟨go, i * 7 + 6, none⟩ = some (.slice Q1 ps.length l1) ∧ w'.cell? ⟨bv, 0, none⟩ = some (.int .i64 vx0) ∧ w'.cell? ⟨bv, 1, none⟩ = some (.int .i64 vy0) ∧ w'.cell? ⟨bv, 2, none⟩ = some (.int .i64 vx1) ∧ w'.cell? ⟨bv, 3, none⟩ = some (.int .i64 vy1))
              ((refine TOS.out _ ?_; first | with_reducible exact P2 | with_reducible exact P1 | with_reducible exact P0))
              (first | (go_at_call 20; refine (box_any vx0 vy0 vx1 vy1 _).mono ?_; rintro e u1 ⟨rfl, hv1⟩; have P1 : Below Wb.heap.size Wb u1 := P0.trans (hv1.mono P0.size)) | (go_at_call 15; refine (fitsK_any vx0 vy0 vx1 vy1 s A1 c1 z1 Q1 l1 ps true (by simp [HFz.out]) _).mono ?_; rintro e u2 ⟨rfl, hv2⟩; have P2 : Below Wb.heap.size Wb u2 := P1.trans (hv2.mono P1.size)))
            have HP2 := Lib.hid P2
            clear P0 P1 TOS hv1 hv2
            have k0 := cell_kept f0 P2
            have k1 := cell_kept f1 P2
            have k2 := cell_kept f2 P2
            have k3 := cell_kept f3 P2
            clear P2
            obtain ⟨⟨⟨⟨y1', y2'⟩, ⟨y3', y4'⟩, ⟨y5', y6'⟩, ⟨y7', y8'⟩⟩, y9', y10', _⟩, _⟩ := id HFz.out
            go_wp2
            go_loopw [13] (fun q wr => ∃ e : Int, vy0 ≤ e ∧ e ≤ vy1 ∧ q = .int .i64 e ∧ Hid (Below Wb.heap.size Wb wr)) (fun q _ => (vy1 - intOf q).toNat)
            case atStart => exact ⟨vy0, Int.le_refl _, y10', rfl, HP2⟩
            case round =>
              obtain ⟨e, he1, he2, rfl, HBq⟩ := hrel
              clear HP2 k0 k1 k2 k3
              have k0 := cell_kept f0 HBq.out
              have k1 := cell_kept f1 HBq.out
              have k2 := cell_kept f2 HBq.out
              have k3 := cell_kept f3 HBq.out
              by_cases hey : e < vy1
              · go_wp2
                go_loopw [14] (fun q wr => ∃ u : Int, vx0 ≤ u ∧ u ≤ vx1 ∧ q = .int .i64 u ∧ Hid (Below Wb.heap.size Wb wr)) (fun q _ => (vx1 - intOf q).toNat)
                case atStart => exact ⟨vx0, Int.le_refl _, y9', rfl, HBq⟩
                case round =>
                  obtain ⟨u, hu1, hu2, rfl, HBu⟩ := hrel
                  clear HBq k0 k1 k2 k3
                  have k0 := cell_kept f0 HBu.out
                  have k1 := cell_kept f1 HBu.out
                  have k2 := cell_kept f2 HBu.out
                  have k3 := cell_kept f3 HBu.out
                  have k4 := cell_kept f4 HBu.out
                  have m0 := cell_kept o0 HBu.out
                  have m1 := cell_kept o1 HBu.out
                  have m2 := cell_kept o2 HBu.out
                  have m3 := cell_kept o3 HBu.out
                  have m4 := cell_kept o4 HBu.out
                  have m5 := cell_kept o5 HBu.out
                  have m6 := cell_kept o6 HBu.out
                  have d4q := cell_kept d4r HBu.out
                  by_cases hux : u < vx1
                  · have hI : Hid (Insd vx0 vy0 vx1 vy1 u e) := ⟨hu1, hux, he1, hey⟩
                    obtain ⟨b1, b2, b3, b4⟩ := near_point HFz.out hI.out
                    obtain ⟨p1, p2⟩ : -2305843009213693952 ≤ (e - vy0) * s ∧ (e - vy0) * s ≤ 2305843009213693952 := (by have := HFz.out.prods hI.out; omega)
                    obtain ⟨kk, hK, hkk⟩ := HFz.out.place (z := 1) rfl hI.out
                    have HK := Lib.hid hK
                    have HKa : Hid ((e - vy0) * s + (u - vx0) = kk) := by unfold Hid; omega
                    have Hk : Hid (kk + 1 ≤ z1.length) := by unfold Hid; omega
                    obtain ⟨kq, hkq⟩ : ∃ kq : Nat, kq = vb + kk := ⟨_, rfl⟩
                    have Hq : Hid (kq + 1 ≤ st.1.length) := by unfold Hid; rw [HGO.out.1]; have := HZL.out; omega
                    have hw1 : IntKind.i64.wrap ((vb : Int) + (kk : Int)) = (kq : Int) := (IntWalk.i64_in _ (by have := HLn.out; have := HZL.out; omega)).trans (by omega)
                    have HNN : Hid (z1.getD kk 0 = st.1.getD kq 0) := by
                      unfold Hid
                      rw [HNU.out, hkq]
                    clear hK hkk hkq
                    have HIq := Lib.hid (HI.out.next (hB9b.out.trans (HBu.out.mono hB9b.out.size)))
                    have hlp : Small st.1 := by unfold Small; rw [HGO.out.1]; exact HLn.out
                    obtain ⟨bA, oA, hA1⟩ : ∃ bA oA, A1 = some ⟨bA, oA, none⟩ := HRD.out.1.addr (show 0 < z1.length by have := Hk.out; omega)
                    subst hA1
                    obtain ⟨bp, ms, hA3, _⟩ := own_block HIq.out.pix (by have := HZL.out; have := Hk.out; omega)
                    subst hA3
                    have HRq := Lib.hid (HRD.out.1.below (hB9b.out.trans (HBu.out.mono hB9b.out.size)))
                    have HRp : Hid (Reads wr (some ⟨bp, 0, none⟩) st.1) := by
                      have h1 := HIq.out.pix
                      rw [← HGO.out.1] at h1
                      exact Reads.of_own h1
                    have hlen1 : Hid (st.1.length = zs.length) := HGO.out.1
                    have P0 : Below wr.heap.size wr wr.drew := (Below.refl _ _).drew
                    have HRq1 := HRq.out
                    have k7 : wr.cell? ⟨bA, oA + kk, none⟩ = some (.int .u8 (st.1.getD kq 0)) := by
                      rw [← HNN.out]
                      exact HRq.out.cell (by have := Hk.out; omega)
                    have k8 : wr.cell? ⟨bp, kq, none⟩ = some (.int .u8 (st.1.getD kq 0)) := by
                      have h1 := HRp.out.cell (show kq < st.1.length by have := Hq.out; omega)
                      rwa [Nat.zero_add] at h1
                    have hkA : kk < z1.length := by have := Hk.out; omega
                    have hkA' : (kk : Int) < (z1.length : Int) := by omega
                    have hkB : kq < zs.length := by have := Hq.out; rw [hlen1.out] at this; omega
                    have hkB' : (kq : Int) < (zs.length : Int) := by omega
                    have hkA0 : (0 : Int) ≤ (kk : Int) := by omega
                    have hkB0 : (0 : Int) ≤ (kq : Int) := by omega
                    generalize hbv : st.1.getD kq 0 = bq at *
                    clear hbv HRq1
                    have toS : ∀ W' : World, Below wr.heap.size wr W' → (W'.cell? ⟨go, i * 7, none⟩ = some (.int .i64 vx0) ∧ W'.cell? ⟨go, i * 7 + 1, none⟩ = some (.int .i64 vy0) ∧ W'.cell? ⟨go, i * 7 + 2, none⟩ = some (.int .i64 vx1) ∧ W'.cell? ⟨go, i * 7 + 3, none⟩ = some (.int .i64 vy1) ∧ W'.cell? ⟨go, i * 7 + 4, none⟩ = some (.int .i64 s) ∧ W'.cell? ⟨go, i * 7 + 5, none⟩ = some (.slice (some ⟨bA, oA, none⟩) z1.length c1) ∧ W'.cell? ⟨go, i * 7 + 6, none⟩ = some (.slice Q1 ps.length l1) ∧ W'.cell? ⟨bv, 0, none⟩ = some (.int .i64 vx0) ∧ W'.cell? ⟨bv, 1, none⟩ = some (.int .i64 vy0) ∧ W'.cell? ⟨bv, 2, none⟩ = some (.int .i64 vx1) ∧ W'.cell? ⟨bv, 3, none⟩ = some (.int .i64 vy1) ∧ W'.cell? ⟨bv, 4, none⟩ = some (.int .i64 (vb : Int)) ∧ W'.cell? ⟨w.heap.size, 4, none⟩ = some (.int .i64 s) ∧ W'.cell? ⟨bA, oA + kk, none⟩ = some (.int .u8 bq) ∧ W'.cell? ⟨bp, kq, none⟩ = some (.int .u8 bq)) := fun W' h => ⟨cell_kept m0 h, cell_kept m1 h, cell_kept m2 h, cell_kept m3 h, cell_kept m4 h, cell_kept m5 h, cell_kept m6 h, cell_kept k0 h, cell_kept k1 h, cell_kept k2 h, cell_kept k3 h, cell_kept k4 h, cell_kept d4q h, cell_kept k7 h, cell_kept k8 h⟩
                    have TOS := Lib.hid toS
                    clear toS
                    go_wp2_with fail
                    go_region_held3 (fun w' => w'.cell? ⟨go, i * 7, none⟩ = some (.int .i64 vx0) ∧ w'.cell? ⟨go, i * 7 + 1, none⟩ = some (.int .i64 vy0) ∧ w'.cell? ⟨go, i * 7 + 2, none⟩ = some (.int .i64 vx1) ∧ w'.cell? ⟨go, i * 7 + 3, none⟩ = some (.int .i64 vy1) ∧ w'.cell? ⟨go, i * 7 + 4, none⟩ = some (.int .i64 s) ∧ w'.cell? ⟨go, i * 7 + 5, none⟩ = some (.slice (some ⟨bA, oA, none⟩) z1.length c1) ∧ w'.cell? ⟨go, i * 7 + 6, none⟩ = some (.slice Q1 ps.length l1) ∧ w'.cell? ⟨bv, 0, none⟩ = some (.int .i64 vx0) ∧ w'.cell? ⟨bv, 1, none⟩ = some (.int .i64 vy0) ∧ w'.cell? ⟨bv, 2, none⟩ = some (.int .i64 vx1) ∧ w'.cell? ⟨bv, 3, none⟩ = some (.int .i64 vy1) ∧ w'.cell? ⟨bv, 4, none⟩ = some (.int .i64 (vb : Int)) ∧ w'.cell? ⟨w.heap.size, 4, none⟩ = some (.int .i64 s) ∧ w'.cell? ⟨bA, oA + kk, none⟩ = some (.int .u8 bq) ∧ w'.cell? ⟨bp, kq, none⟩ = some (.int .u8 bq))
                      ((refine TOS.out _ ?_; first | with_reducible exact P2 | with_reducible exact P1 | with_reducible exact P0))
                      (first | (go_at_call 18; refine (atK_any vx0 vy0 vx1 vy1 s _ c1 z1 Q1 l1 ps u e _ b1 b2 b3 b4 p1 p2).mono ?_; rintro e' t1 ⟨rfl, hv1⟩; rw [HKa.out]; have P1 : Below wr.heap.size wr t1 := P0.trans (hv1.mono P0.size)) | (go_at_call 38; refine (offs_any vx0 vy0 vx1 vy1 s u e _ b1 b2 b3 b4 p1 p2).mono ?_; rintro e' t3 ⟨rfl, hv3⟩; rw [HK.out]; have P2 : Below wr.heap.size wr t3 := P1.trans (hv3.mono P1.size)))
                    have HB4 := Lib.hid (HBu.out.trans (P2.mono HBu.out.size))
                    clear P0 P1 P2 hv1 hv3 TOS
                    go_wp2
                    go_roundw
                    case rel => exact ⟨u + 1, by omega, by omega, by go_num, HB4⟩
                    case measure => simp [intOf]; omega
                  · go_wp2
                    go_roundw
                    case rel => exact ⟨e + 1, by omega, by omega, by go_num, HBu⟩
                    case measure => simp [intOf]; omega
              · have HB5 := Lib.hid (hB9b.out.trans (HBq.out.mono hB9b.out.size))
                go_wp2
                go_roundw
                case rel => exact ⟨i + 1, by omega, by go_num, HB5⟩
                case measure => simp [intOf]; omega
        · have hin' : ¬ (i : Int) < (n : Int) := by omega
          go_wp2
          go_ret
          exact ⟨by simp, hB9.trans (HB.out.mono hB9.size)⟩

theorem walk_run (x0 y0 x1 y1 s : Int) (A : Option Addr) (c : Nat) (zs : List Int) (Bp : Option Addr) (kb : Nat) (ps : List (Int × Int × Int × Int)) (B : Option Addr) (cB : Nat) (l : List StepD) (w : World) (hr : Hid (Reads w A zs)) (hy : Hid (Bytes zs)) (hl : Small zs) (hn : Hid (A = none → c = 0)) (pr : Hid (PReads w Bp ps)) (pl : (ps.length : Int) ≤ 2097152) (hQ : Hid (StepsAt w B l)) (hok : Hid (∀ p ∈ l, OkS p)) (hll : (l.length : Int) ≤ 2097152) :
    Calls Try.prog 13 #[.agg #[.int .i64 x0, .int .i64 y0, .int .i64 x1, .int .i64 y1, .int .i64 s, .slice A zs.length c, .slice Bp ps.length kb], .slice B l.length cB] w fun e w' => e = .returned (.bool true) ∧ Below w.heap.size w w' := by
  by_cases hF : Fits x0 y0 x1 y1 s 1 zs.length
  · by_cases hS : Steady l
    · exact run_fit x0 y0 x1 y1 s A c zs Bp kb ps B cB l w hr hy hl hn pr pl hQ hok hll hF hS
    · exact run_far x0 y0 x1 y1 s A c zs Bp kb ps B cB l w hr hy hl hn pr pl hQ hok hll hF hS
  · exact run_unfit x0 y0 x1 y1 s A c zs Bp kb ps B cB l w hr hy hl hn pr pl hQ hok hll hF

end Go.Proofs.Ytkhgobeeaiagfaa
