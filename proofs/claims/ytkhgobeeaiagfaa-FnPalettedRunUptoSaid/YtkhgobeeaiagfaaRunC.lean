/- What SetK and SubImage do to what a run holds. -/
import Derived.Test.YtkhgobeeaiagfaaRunM
namespace Go.Proofs.Ytkhgobeeaiagfaa
open Go.RowKit
set_option linter.unusedVariables false

theorem imgV_off {vp : Value} {A : Option Addr} {L C : Nat} {s : Int} {i n : Nat} {v : ViewD} {p : StepD} (hg : GoodV s n v) (h : ¬ Hits v p) :
    ∃ (B : Option Addr) (m c : Nat) (S X0 Y0 X1 Y1 : Int), imgV vp A L C s i v = #[.slice B m c, .int .i64 S, .int .i64 X0, .int .i64 Y0, .int .i64 X1, .int .i64 Y1, vp] ∧ ¬ Insd X0 Y0 X1 Y1 p.x p.y := by
  unfold imgV
  by_cases h1 : i = 0 ∨ v.on = true
  · rw [if_pos h1]
    refine ⟨_, _, _, _, _, _, _, _, rfl, fun hI => ?_⟩
    by_cases ho : v.on = true
    · exact h ⟨ho, hI⟩
    · have hE := (hg.2.2.1 (by simpa using ho)).1
      unfold Empt at hE
      unfold Insd at hI
      omega
  · rw [if_neg h1]
    exact ⟨_, _, _, _, _, _, _, _, rfl, fun hI => by unfold Insd at hI; omega⟩
theorem imgV_none {vp : Value} {A : Option Addr} {L C : Nat} {s : Int} {i n : Nat} {v : ViewD} {p : StepD} (hg : GoodV s n v) (h : ¬ Meets v p) :
    ∃ (B : Option Addr) (m c : Nat) (S X0 Y0 X1 Y1 : Int), imgV vp A L C s i v = #[.slice B m c, .int .i64 S, .int .i64 X0, .int .i64 Y0, .int .i64 X1, .int .i64 Y1, vp] ∧ (min X1 p.r2 ≤ max X0 p.r0 ∨ min Y1 p.r3 ≤ max Y0 p.r1) := by
  unfold imgV
  by_cases h1 : i = 0 ∨ v.on = true
  · rw [if_pos h1]
    refine ⟨_, _, _, _, _, _, _, _, rfl, ?_⟩
    by_cases ho : v.on = true
    · by_cases h2 : max v.x0 p.r0 < min v.x1 p.r2 ∧ max v.y0 p.r1 < min v.y1 p.r3
      · exact absurd ⟨ho, h2.1, h2.2⟩ h
      · omega
    · have hE := (hg.2.2.1 (by simpa using ho)).1
      unfold Empt at hE
      omega
  · rw [if_neg h1]
    exact ⟨_, _, _, _, _, _, _, _, rfl, Or.inl (by omega)⟩

section
variable {w wr : World} {Q : Option Addr} {kp : Nat} {ps : List (Int × Int × Int × Int)} {s : Int} {A : Option Addr} {L C ga ca : Nat} {st : List Int × List ViewD} {gs : List Nat}

theorem imgV_on {vp : Value} {b i : Nat} {v : ViewD} (h : v.on = true) : imgV vp (some ⟨b, 0, none⟩) L C s i v = #[.slice (some ⟨b, 0 + v.base, none⟩) (L - v.base) (C - v.base), .int .i64 s, .int .i64 v.x0, .int .i64 v.y0, .int .i64 v.x1, .int .i64 v.y1, vp] := by
  unfold imgV
  rw [if_pos (Or.inr h)]
  rfl

/-- A setting, whatever it hits. -/
theorem runSet (h : RunInv w Q kp ps s A L C ga ca st gs wr) (hG : GoodG s L st) (hl : L ≤ 140737488351232) {i g : Nat} (hi : i < st.2.length) (hg : wr.heap[g]? = some (.cells (imgV (.slice Q ps.length kp) A L C s i (st.2.getD i zeroV)) 94 (0, 0))) (p : StepD) (hp : OkS p) :
    Calls Try.prog 48 #[.pointer (some ⟨g, 0, none⟩), .int .i64 p.x, .int .i64 p.y, .int .u8 p.ix] wr fun e w' => e = .returned (.tuple #[]) ∧ RunInv w Q kp ps s A L C ga ca (setV s st.1 (st.2.getD i zeroV) p, st.2) gs w' := by
  have hv := hG.2.2.1 _ (mem_getD hi)
  generalize st.2.getD i zeroV = v at hg hv ⊢
  unfold setV
  by_cases hH : Hits v p
  · rw [if_pos hH]
    obtain ⟨k, hk, hkn, hpl⟩ := hit_place hv hH
    rw [hpl]
    obtain ⟨b, ms, rfl, hbb, hmb, hms, hmc, htk⟩ := own_block h.pix (by omega)
    rw [imgV_on hH.1] at hg
    have hpr := hv.2.1.prods hH.2
    obtain ⟨b1, b2, b3, b4⟩ := near_point hv.2.1 hH.2
    rw [Int.mul_one] at hk
    have hlen : (List.replicate (L - v.base) (0 : Int)).length = L - v.base := List.length_replicate
    refine (setM_in g b (0 + v.base) (L - v.base) (C - v.base) kp k ms v.x0 v.y0 v.x1 v.y1 s Q ps p.x p.y p.ix wr hg hmb (by omega) hH.2 b1 b2 b3 b4 (by omega) (by omega) hk (by omega)).mono ?_
    rintro e w1 ⟨rfl, hb1, hgr⟩
    rw [Nat.zero_add] at hb1
    exact ⟨rfl, h.written (st := st) hgr (own_set1 h.pix hmb hb1)⟩
  · rw [if_neg hH]
    obtain ⟨B, m, c, S, X0, Y0, X1, Y1, e0, hI⟩ := imgV_off (vp := .slice Q ps.length kp) (A := A) (L := L) (C := C) (i := i) hv hH
    rw [e0] at hg
    refine (setM_out g X0 Y0 X1 Y1 S B c (List.replicate m 0) Q kp ps p.x p.y p.ix wr (by rw [List.length_replicate]; exact hg) hI).mono ?_
    rintro e w1 ⟨rfl, hb1⟩
    exact ⟨rfl, h.next hb1⟩

/-- What SubImage hands back in a run. -/
def RunSub (vp : Value) (A : Option Addr) (L C : Nat) (s : Int) (n : Nat) (v : ViewD) (w : World) (e : Ending) (w' : World) : Prop :=
  ∃ g : Nat, e = .returned (.iface 69 (.pointer (some ⟨g, 0, none⟩))) ∧ w'.heap[g]? = some (.cells (imgV vp A L C s n v) 94 (0, 0)) ∧ Below w.heap.size w w'
/-- A part, whatever is seen. -/
theorem runSub (h : RunInv w Q kp ps s A L C ga ca st gs wr) (hG : GoodG s L st) (hC : C ≤ 9223372036854775807) {i g : Nat} (hi : i < st.2.length) (hg : wr.heap[g]? = some (.cells (imgV (.slice Q ps.length kp) A L C s i (st.2.getD i zeroV)) 94 (0, 0))) (p : StepD) :
    Calls Try.prog 54 #[.pointer (some ⟨g, 0, none⟩), .agg #[.int .i64 p.r0, .int .i64 p.r1, .int .i64 p.r2, .int .i64 p.r3]] wr (RunSub (.slice Q ps.length kp) A L C s gs.length (seenV s (st.2.getD i zeroV) p) wr) := by
  have hv := hG.2.2.1 _ (mem_getD hi)
  have hn : gs.length ≠ 0 := by have := h.len; have := hG.2.2.2.1; omega
  generalize st.2.getD i zeroV = v at hg hv ⊢
  by_cases hM : Meets v p
  · obtain ⟨k, hk, hkn, e0⟩ := seen_place hv hM
    obtain ⟨_, n5, n6⟩ := id hM
    have hI : Insd v.x0 v.y0 v.x1 v.y1 (max v.x0 p.r0) (max v.y0 p.r1) := (within_of v.x0 v.y0 v.x1 v.y1 p.r0 p.r1 p.r2 p.r3).insd ⟨Int.le_refl _, n5, Int.le_refl _, n6⟩
    obtain ⟨b, ms, rfl, hbb, hmb, hms, hmc, htk⟩ := own_block h.pix (by omega)
    rw [imgV_on hM.1] at hg
    have hpr := hv.2.1.prods hI
    obtain ⟨b1, b2, b3, b4⟩ := near_point hv.2.1 hI
    have hk' := hk
    rw [Int.mul_one] at hk'
    have hlen : (List.replicate (L - v.base) (0 : Int)).length = L - v.base := List.length_replicate
    refine (subImage_some g b (0 + v.base) (C - v.base) kp k v.x0 v.y0 v.x1 v.y1 s (List.replicate (L - v.base) 0) Q ps p.r0 p.r1 p.r2 p.r3 _ _ _ _ wr (by rw [hlen]; exact hg) rfl rfl rfl rfl n5 n6 hk' (by rw [hlen]; omega) (by rw [hlen]; omega) (by omega) b1 b2 b3 b4 (by omega) (by omega)).mono ?_
    rintro e w1 ⟨g3, rfl, _, hg3, hb1⟩
    refine ⟨g3, rfl, ?_, hb1⟩
    rw [e0, imgV_on rfl]
    rw [hlen] at hg3
    rw [show 0 + v.base + k = 0 + (v.base + k) by omega, show L - v.base - k = L - (v.base + k) by omega, show C - v.base - k = C - (v.base + k) by omega] at hg3
    exact hg3
  · obtain ⟨B, m, c, S, X0, Y0, X1, Y1, e0, hE⟩ := imgV_none (vp := .slice Q ps.length kp) (A := A) (L := L) (C := C) (i := i) hv hM
    rw [e0] at hg
    refine (subImage_none g X0 Y0 X1 Y1 S B c (List.replicate m 0) Q kp ps p.r0 p.r1 p.r2 p.r3 wr (by rw [List.length_replicate]; exact hg) hE).mono ?_
    rintro e w1 ⟨g3, rfl, _, hg3, hb1⟩
    refine ⟨g3, rfl, ?_, hb1⟩
    unfold seenV
    rw [if_neg hM]
    unfold imgV
    rw [if_neg (by simp [hn, zeroV])]
    exact hg3
end

end Go.Proofs.Ytkhgobeeaiagfaa
