/- Proved of image.Paletted: the rows of a new image follow one another, without a gap, and all bytes are 0: the law returns true for every input of bulk at most 1048576, and its arguments read afterwards as before. -/
import Derived.Test.YtkhgobeeaiagfaaOpens
import Derived.Test.YtkhgobeeaiagfaaWNewBlank
namespace Go.Proofs.Ytkhgobeeaiagfaa.fnPalettedNewBlank
open Go.ChangeShapes Go.WideShapes Go.ChangeAt Go.RowKit
set_option linter.unusedVariables false

set_option maxRecDepth 100000 in
theorem lifted (os : Os) (started : os.Started) (H : Type) (enc : TypeId × Value → H) (F : Stop.Interp) :
    ReturnsInHanded {} Try.checked os 11 .any ((Rows.OpenSpec.upto Rows.fnPalettedNewBlankSpec).pre6 enc Try.prog Try.f11 Rows.fnPalettedNewBlankUptoRow.domain false) (((Rows.OpenSpec.upto Rows.fnPalettedNewBlankSpec).at F).post enc Try.prog Try.f11 false true false false) := by
  refine returnsInHanded_of_cond_sized (C := Try.checked) (s := (Rows.OpenSpec.upto Rows.fnPalettedNewBlankSpec)) (k := Rows.uptoSmall) rfl own started (by kernel_rfl) Try.func11
    (OpenSpec.witness (enc := enc) (C := Try.checked) (s := (Rows.OpenSpec.upto Rows.fnPalettedNewBlankSpec)) (k := Rows.uptoSmall) rfl false ⟨#[], #[.agg #[.int .i64 0, .int .i64 0, .int .i64 0, .int .i64 0], .slice none 0 0], []⟩ 8 (by kernel_rfl) (by kernel_rfl) (by kernel_rfl)
      (x := ([.agg [.lit (.int .i64 0), .lit (.int .i64 0), .lit (.int .i64 0), .lit (.int .i64 0)], .nil], [], [])) (by kernel_rfl) rfl (by kernel_rfl)) ?_
  intro W base args ds gs before hval0 hW _ hk hsz0 _
  have hval : ∀ (j : Nat) t v, Try.f11.params[j]? = some t → args[j]? = some v → Value.okWide Try.prog W .any base t v := hval0
  have hsz : (DataW.weightsEach Try.prog (Try.f11.params.toList ++ Rows.fnPalettedNewBlankSpec.plain.varTypes Try.prog) (ds ++ gs)).all (· ≤ reachBytes) = true := hsz0
  have hW' : DataW.Whole enc Try.prog Try.f11.params.toList Rows.fnPalettedNewBlankSpec.vars false W args.toList ds gs before := hW
  obtain ⟨p, q, hA0, hV, rfl, _, _⟩ := hW
  have hA : DataW.TrodAll enc Try.prog W 0 (fun _ => true) true Try.f11.params.toList args.toList ds p := hA0
  rw [Try.params11] at hA hval hsz
  obtain ⟨v0, vs0, d0, ds0, p0, q0', hargs, rfl, rfl, h0, r0⟩ := trodAll_cons hA
  obtain ⟨v1, vs1, d1, ds1, p1, q1', rfl, rfl, rfl, h1, r1⟩ := trodAll_cons r0
  obtain ⟨rfl, rfl, rfl⟩ := trodAll_nil r1
  obtain rfl : args = #[v0, v1] := by cases args; simp_all
  obtain ⟨rfl, rfl⟩ := trodVars_none hV
  have hbk := bulk_bound hk
  have bk0 : Rows.uptoBulk d0 ≤ 1048576 := Nat.le_trans (part_le (by simp)) hbk
  have bk1 : Rows.uptoBulk d1 ≤ 1048576 := Nat.le_trans (part_le (by simp)) hbk
  have k0' := h0
  have lt0 : ∀ x ∈ p0, x.block < W.heap.size := by obtain ⟨m, hm⟩ := k0'; exact DataW.trod_lt m _ _ _ hm
  have k1' := h1
  have lt1 : ∀ x ∈ p1, x.block < W.heap.size := by obtain ⟨m, hm⟩ := k1'; exact DataW.trod_lt m _ _ _ hm
  obtain ⟨a0, b0, a1, b1, rfl⟩ := open_rect (hval 0 23 v0 rfl rfl) h0
  obtain ⟨B, k, ps, rfl, pr, pok, plq⟩ := open_pal' (hval 1 25 v1 rfl rfl) h1
  have pl : (ps.length : Int) ≤ 2097152 := by have := bk1; omega
  clear hA0 hval0 hsz0
  show Calls _ _ _ _ (fun e W' => ∃ v, e = .returned v ∧ Rows.fnPalettedNewBlankSpec.post enc Try.prog Try.f11 false true false false W _ v W')
  refine (walk_newBlank a0 b0 a1 b1 B k ps W pr pl).mono fun e W' ⟨he, bel⟩ => ?_
  subst he
  exact ⟨_, rfl, _, _, _, [], _, [], hW', trodAll_mk1 (shut_bool Try.underlying4 _), (trodAll_cons_mk (Below.trod laidOut (by kernel_rfl) (of_decide_eq_true (by kernel_rfl)) k0' bel lt0) (trodAll_cons_mk (Below.trod laidOut (by kernel_rfl) (of_decide_eq_true (by kernel_rfl)) k1' bel lt1) trodAll_mk0)), rfl, bel.frame _, fun h => by cases h⟩

theorem proved : Rows.FnPalettedNewBlankUptoSaid :=
  OpenClaim.holds_of_cond 11 Try.f11 rfl rfl rfl rfl rfl rfl rfl ⟨rfl, rfl, rfl, rfl, rfl⟩ rfl rfl rfl rfl rfl (by kernel_rfl) Try.func11 (by kernel_rfl)
    (of_decide_eq_true (by kernel_rfl)) (by unfold Func.isWrapper; first | (rw [if_pos (by decide +kernel)]; kernel_rfl) | (rw [if_neg (by decide +kernel)]; exact ⟨rfl, rfl⟩))
    (fun os started H enc _ F => lifted os started H enc F)
end Go.Proofs.Ytkhgobeeaiagfaa.fnPalettedNewBlank
