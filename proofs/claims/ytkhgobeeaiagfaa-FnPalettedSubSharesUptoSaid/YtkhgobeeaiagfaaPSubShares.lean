/- Proved of image.Paletted: what is set in a part of an image is set in the image, and what is set in the image is set in its part: the law returns true for every input of bulk at most 1048576, and its arguments read afterwards as before. -/
import Derived.Test.YtkhgobeeaiagfaaOpens
import Derived.Test.YtkhgobeeaiagfaaWSubShares
namespace Go.Proofs.Ytkhgobeeaiagfaa.fnPalettedSubShares
open Go.ChangeShapes Go.WideShapes Go.ChangeAt Go.RowKit
set_option linter.unusedVariables false

set_option maxRecDepth 100000 in
theorem lifted (os : Os) (started : os.Started) (H : Type) (enc : TypeId × Value → H) (F : Stop.Interp) :
    ReturnsInHanded {} Try.checked os 14 .any ((Rows.OpenSpec.upto Rows.fnPalettedSubSharesSpec).pre6 enc Try.prog Try.f14 Rows.fnPalettedSubSharesUptoRow.domain false) (((Rows.OpenSpec.upto Rows.fnPalettedSubSharesSpec).at F).post enc Try.prog Try.f14 false true false false) := by
  refine returnsInHanded_of_cond_sized (C := Try.checked) (s := (Rows.OpenSpec.upto Rows.fnPalettedSubSharesSpec)) (k := Rows.uptoSmall) rfl own started (by kernel_rfl) Try.func14
    (OpenSpec.witness (enc := enc) (C := Try.checked) (s := (Rows.OpenSpec.upto Rows.fnPalettedSubSharesSpec)) (k := Rows.uptoSmall) rfl false ⟨#[], #[.agg #[.int .i64 0, .int .i64 0, .int .i64 0, .int .i64 0, .int .i64 0, .slice none 0 0, .slice none 0 0], .agg #[.int .i64 0, .int .i64 0, .int .i64 0, .int .i64 0], .int .i64 0, .int .i64 0, .int .u8 0], []⟩ 8 (by kernel_rfl) (by kernel_rfl) (by kernel_rfl)
      (x := ([.agg [.agg [.lit (.int .i64 0), .lit (.int .i64 0), .lit (.int .i64 0), .lit (.int .i64 0)], .lit (.int .i64 0), .nil, .nil], .agg [.lit (.int .i64 0), .lit (.int .i64 0), .lit (.int .i64 0), .lit (.int .i64 0)], .lit (.int .i64 0), .lit (.int .i64 0), .lit (.int .u8 0)], [], [])) (by kernel_rfl) rfl (by kernel_rfl)) ?_
  intro W base args ds gs before hval0 hW _ hk hsz0 _
  have hval : ∀ (j : Nat) t v, Try.f14.params[j]? = some t → args[j]? = some v → Value.okWide Try.prog W .any base t v := hval0
  have hsz : (DataW.weightsEach Try.prog (Try.f14.params.toList ++ Rows.fnPalettedSubSharesSpec.plain.varTypes Try.prog) (ds ++ gs)).all (· ≤ reachBytes) = true := hsz0
  have hW' : DataW.Whole enc Try.prog Try.f14.params.toList Rows.fnPalettedSubSharesSpec.vars false W args.toList ds gs before := hW
  obtain ⟨p, q, hA0, hV, rfl, _, _⟩ := hW
  have hA : DataW.TrodAll enc Try.prog W 0 (fun _ => true) true Try.f14.params.toList args.toList ds p := hA0
  rw [Try.params14] at hA hval hsz
  obtain ⟨v0, vs0, d0, ds0, p0, q0', hargs, rfl, rfl, h0, r0⟩ := trodAll_cons hA
  obtain ⟨v1, vs1, d1, ds1, p1, q1', rfl, rfl, rfl, h1, r1⟩ := trodAll_cons r0
  obtain ⟨v2, vs2, d2, ds2, p2, q2', rfl, rfl, rfl, h2, r2⟩ := trodAll_cons r1
  obtain ⟨v3, vs3, d3, ds3, p3, q3', rfl, rfl, rfl, h3, r3⟩ := trodAll_cons r2
  obtain ⟨v4, vs4, d4, ds4, p4, q4', rfl, rfl, rfl, h4, r4⟩ := trodAll_cons r3
  obtain ⟨rfl, rfl, rfl⟩ := trodAll_nil r4
  obtain rfl : args = #[v0, v1, v2, v3, v4] := by cases args; simp_all
  obtain ⟨rfl, rfl⟩ := trodVars_none hV
  have hbk := bulk_bound hk
  have bk0 : Rows.uptoBulk d0 ≤ 1048576 := Nat.le_trans (part_le (by simp)) hbk
  have bk1 : Rows.uptoBulk d1 ≤ 1048576 := Nat.le_trans (part_le (by simp)) hbk
  have bk2 : Rows.uptoBulk d2 ≤ 1048576 := Nat.le_trans (part_le (by simp)) hbk
  have bk3 : Rows.uptoBulk d3 ≤ 1048576 := Nat.le_trans (part_le (by simp)) hbk
  have bk4 : Rows.uptoBulk d4 ≤ 1048576 := Nat.le_trans (part_le (by simp)) hbk
  have k0' := h0
  have lt0 : ∀ x ∈ p0, x.block < W.heap.size := by obtain ⟨m, hm⟩ := k0'; exact DataW.trod_lt m _ _ _ hm
  have k1' := h1
  have lt1 : ∀ x ∈ p1, x.block < W.heap.size := by obtain ⟨m, hm⟩ := k1'; exact DataW.trod_lt m _ _ _ hm
  have k2' := h2
  have lt2 : ∀ x ∈ p2, x.block < W.heap.size := by obtain ⟨m, hm⟩ := k2'; exact DataW.trod_lt m _ _ _ hm
  have k3' := h3
  have lt3 : ∀ x ∈ p3, x.block < W.heap.size := by obtain ⟨m, hm⟩ := k3'; exact DataW.trod_lt m _ _ _ hm
  have k4' := h4
  have lt4 : ∀ x ∈ p4, x.block < W.heap.size := by obtain ⟨m, hm⟩ := k4'; exact DataW.trod_lt m _ _ _ hm
  obtain ⟨x0, y0, x1, y1, s, A, c, zs, B, k, ps, rfl, hr, hB, hl, hn, pr, pok, plq⟩ := open_plate (hval 0 27 v0 rfl rfl) h0 (fun k hk => of_decide_eq_true (List.all_eq_true.1 hsz _ (DataW.weights_mem_each (j := 0) rfl rfl k hk)))
  have pl : (ps.length : Int) ≤ 2097152 := by have := bk0; omega
  obtain ⟨a0, b0, a1, b1, rfl⟩ := open_rect (hval 1 23 v1 rfl rfl) h1
  obtain ⟨n2, rfl, _, _⟩ := open_i64 (hval 2 3 v2 rfl rfl) h2
  obtain ⟨n3, rfl, _, _⟩ := open_i64 (hval 3 3 v3 rfl rfl) h3
  obtain ⟨m, rfl, q0, q1⟩ := open_u8 (hval 4 5 v4 rfl rfl) h4
  clear hA0 hval0 hsz0
  show Calls _ _ _ _ (fun e W' => ∃ v, e = .returned v ∧ Rows.fnPalettedSubSharesSpec.post enc Try.prog Try.f14 false true false false W _ v W')
  refine (walk_subShares x0 y0 x1 y1 s A c zs B k ps a0 b0 a1 b1 n2 n3 m W hr hB hl hn pr pl q0 q1).mono fun e W' ⟨he, bel⟩ => ?_
  subst he
  exact ⟨_, rfl, _, _, _, [], _, [], hW', trodAll_mk1 (shut_bool Try.underlying4 _), (trodAll_cons_mk (Below.trod laidOut (by kernel_rfl) (of_decide_eq_true (by kernel_rfl)) k0' bel lt0) (trodAll_cons_mk (Below.trod laidOut (by kernel_rfl) (of_decide_eq_true (by kernel_rfl)) k1' bel lt1) (trodAll_cons_mk (Below.trod laidOut (by kernel_rfl) (of_decide_eq_true (by kernel_rfl)) k2' bel lt2) (trodAll_cons_mk (Below.trod laidOut (by kernel_rfl) (of_decide_eq_true (by kernel_rfl)) k3' bel lt3) (trodAll_cons_mk (Below.trod laidOut (by kernel_rfl) (of_decide_eq_true (by kernel_rfl)) k4' bel lt4) trodAll_mk0))))), rfl, bel.frame _, fun h => by cases h⟩

theorem proved : Rows.FnPalettedSubSharesUptoSaid :=
  OpenClaim.holds_of_cond 14 Try.f14 rfl rfl rfl rfl rfl rfl rfl ⟨rfl, rfl, rfl, rfl, rfl⟩ rfl rfl rfl rfl rfl (by kernel_rfl) Try.func14 (by kernel_rfl)
    (of_decide_eq_true (by kernel_rfl)) (by unfold Func.isWrapper; first | (rw [if_pos (by decide +kernel)]; kernel_rfl) | (rw [if_neg (by decide +kernel)]; exact ⟨rfl, rfl⟩))
    (fun os started H enc _ F => lifted os started H enc F)
end Go.Proofs.Ytkhgobeeaiagfaa.fnPalettedSubShares
