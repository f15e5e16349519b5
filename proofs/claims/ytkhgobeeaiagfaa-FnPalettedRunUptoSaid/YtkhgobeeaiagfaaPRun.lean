/- Proved of image.Paletted: in any script of parts and settings all images show the bytes of the first one, each its own part of them, also if rows overlap: the law returns true for every input of bulk at most 1048576, and its arguments read afterwards as before. -/
import Derived.Test.YtkhgobeeaiagfaaOpenSteps
import Derived.Test.YtkhgobeeaiagfaaWRun
namespace Go.Proofs.Ytkhgobeeaiagfaa.fnPalettedRun
open Go.ChangeShapes Go.WideShapes Go.ChangeAt Go.RowKit
set_option linter.unusedVariables false

set_option maxRecDepth 100000 in
theorem lifted (os : Os) (started : os.Started) (H : Type) (enc : TypeId × Value → H) (F : Stop.Interp) :
    ReturnsInHanded {} Try.checked os 13 .any ((Rows.OpenSpec.upto Rows.fnPalettedRunSpec).pre6 enc Try.prog Try.f13 Rows.fnPalettedRunUptoRow.domain false) (((Rows.OpenSpec.upto Rows.fnPalettedRunSpec).at F).post enc Try.prog Try.f13 false true false false) := by
  refine returnsInHanded_of_cond_sized (C := Try.checked) (s := (Rows.OpenSpec.upto Rows.fnPalettedRunSpec)) (k := Rows.uptoSmall) rfl own started (by kernel_rfl) Try.func13
    (OpenSpec.witness (enc := enc) (C := Try.checked) (s := (Rows.OpenSpec.upto Rows.fnPalettedRunSpec)) (k := Rows.uptoSmall) rfl false ⟨#[], #[.agg #[.int .i64 0, .int .i64 0, .int .i64 0, .int .i64 0, .int .i64 0, .slice none 0 0, .slice none 0 0], .slice none 0 0], []⟩ 8 (by kernel_rfl) (by kernel_rfl) (by kernel_rfl)
      (x := ([.agg [.agg [.lit (.int .i64 0), .lit (.int .i64 0), .lit (.int .i64 0), .lit (.int .i64 0)], .lit (.int .i64 0), .nil, .nil], .nil], [], [])) (by kernel_rfl) rfl (by kernel_rfl)) ?_
  intro W base args ds gs before hval0 hW _ hk hsz0 _
  have hval : ∀ (j : Nat) t v, Try.f13.params[j]? = some t → args[j]? = some v → Value.okWide Try.prog W .any base t v := hval0
  have hsz : (DataW.weightsEach Try.prog (Try.f13.params.toList ++ Rows.fnPalettedRunSpec.plain.varTypes Try.prog) (ds ++ gs)).all (· ≤ reachBytes) = true := hsz0
  have hW' : DataW.Whole enc Try.prog Try.f13.params.toList Rows.fnPalettedRunSpec.vars false W args.toList ds gs before := hW
  obtain ⟨p, q, hA0, hV, rfl, _, _⟩ := hW
  have hA : DataW.TrodAll enc Try.prog W 0 (fun _ => true) true Try.f13.params.toList args.toList ds p := hA0
  rw [Try.params13] at hA hval hsz
  obtain ⟨v0, vs0, d0, ds0, p0, q0', hargs, rfl, rfl, h0, r0⟩ := trodAll_cons hA
  obtain ⟨v1, vs1, d1, ds1, p1, q1', rfl, rfl, rfl, h1, r1⟩ := trodAll_cons r0
  obtain ⟨rfl, rfl, rfl⟩ := trodAll_nil r1
  obtain rfl : args = #[v0, v1] := by cases args; simp_all
  obtain ⟨rfl, rfl⟩ := trodVars_none hV
  have hbk := bulk_bound hk
  have bk0 : Rows.uptoBulk d0 ≤ 1048576 := Nat.le_trans (part_le (by simp)) hbk
  have bk1 : Rows.uptoBulk d1 ≤ 1048576 := Nat.le_trans (part_le (by simp)) hbk
  have k0' := h0
  have lt0 : ∀ x ∈ p0, x.block < W.heap.size := by obtain ⟨m, hm⟩ := k0'; exact DataW.trod_lt m _ _ _ hm
  have k1' := h1
  have lt1 : ∀ x ∈ p1, x.block < W.heap.size := by obtain ⟨m, hm⟩ := k1'; exact DataW.trod_lt m _ _ _ hm
  obtain ⟨x0, y0, x1, y1, s, A, c, zs, B, k, ps, rfl, hr, hB, hl, hn, pr, pok, plq⟩ := open_plate (hval 0 27 v0 rfl rfl) h0 (fun k hk => of_decide_eq_true (List.all_eq_true.1 hsz _ (DataW.weights_mem_each (j := 0) rfl rfl k hk)))
  have pl : (ps.length : Int) ≤ 2097152 := by have := bk0; omega
  obtain ⟨B2, cB, ls, rfl, hQ, hok, hlq⟩ := open_steps (hval 1 55 v1 rfl rfl) h1 (fun k hk => of_decide_eq_true (List.all_eq_true.1 hsz _ (DataW.weights_mem_each (j := 1) rfl rfl k hk)))
  have hll : (ls.length : Int) ≤ 2097152 := by have := bk1; omega
  clear hA0 hval0 hsz0
  show Calls _ _ _ _ (fun e W' => ∃ v, e = .returned v ∧ Rows.fnPalettedRunSpec.post enc Try.prog Try.f13 false true false false W _ v W')
  refine (walk_run x0 y0 x1 y1 s A c zs B k ps B2 cB ls W hr hB hl hn pr pl hQ hok hll).mono fun e W' ⟨he, bel⟩ => ?_
  subst he
  exact ⟨_, rfl, _, _, _, [], _, [], hW', trodAll_mk1 (shut_bool Try.underlying4 _), (trodAll_cons_mk (Below.trod laidOut (by kernel_rfl) (of_decide_eq_true (by kernel_rfl)) k0' bel lt0) (trodAll_cons_mk (Below.trod laidOut (by kernel_rfl) (of_decide_eq_true (by kernel_rfl)) k1' bel lt1) trodAll_mk0)), rfl, bel.frame _, fun h => by cases h⟩

theorem proved : Rows.FnPalettedRunUptoSaid :=
  OpenClaim.holds_of_cond 13 Try.f13 rfl rfl rfl rfl rfl rfl rfl ⟨rfl, rfl, rfl, rfl, rfl⟩ rfl rfl rfl rfl rfl (by kernel_rfl) Try.func13 (by kernel_rfl)
    (of_decide_eq_true (by kernel_rfl)) (by unfold Func.isWrapper; first | (rw [if_pos (by decide +kernel)]; kernel_rfl) | (rw [if_neg (by decide +kernel)]; exact ⟨rfl, rfl⟩))
    (fun os started H enc _ F => lifted os started H enc F)
end Go.Proofs.Ytkhgobeeaiagfaa.fnPalettedRun
