/- A script that came in, opened: its steps, its numbers within their kinds. -/
import Derived.Test.YtkhgobeeaiagfaaOpens
import Derived.Test.YtkhgobeeaiagfaaRunM
import Derived.Deep.Slices
namespace Go.Proofs.Ytkhgobeeaiagfaa
open Go.ChangeShapes Go.WideShapes Go.ChangeAt Go.RowKit Go.Joins Go.Deep
set_option maxRecDepth 100000
set_option linter.unusedVariables false

theorem cellsStep : Try.prog.cellsOf 61 = 13 := by kernel_rfl
theorem bytesStep : Try.prog.bytesOf 61 = 80 := by kernel_rfl
theorem list13 {α : Type} {l : List α} (h : l.length = 13) : ∃ a0 a1 a2 a3 a4 a5 a6 a7 a8 a9 a10 a11 a12, l = [a0, a1, a2, a3, a4, a5, a6, a7, a8, a9, a10, a11, a12] := by
  match l, h with
  | [a0, a1, a2, a3, a4, a5, a6, a7, a8, a9, a10, a11, a12], _ => exact ⟨a0, a1, a2, a3, a4, a5, a6, a7, a8, a9, a10, a11, a12, rfl⟩
section
variable {H : Type} {enc : TypeId × Value → H} {w : World} {base b0 : Nat} {spare : Nat → Bool} {held : Bool} {r : Reach} {v : Value} {d : DataW H} {p : List MemPlace}

theorem step_of {fuel : Nat} {cs : List Value} {x : DataW H × List MemPlace} (h : DataW.trod enc Try.prog w base spare held fuel 61 cs = some x) : ∃ q : StepD, cs = stepV q ∧ OkS q := by
  obtain ⟨xs, n, _, _, hlen, hxl, hf⟩ := DataW.trod_struct Try.underlying61 h
  obtain ⟨a0, a1, a2, a3, a4, a5, a6, a7, a8, a9, a10, a11, a12, rfl⟩ := list13 (hlen.trans cellsStep)
  have hx : ∀ i, i < 7 → ∃ y, xs[i]? = some y := fun i hi => ⟨_, List.getElem?_eq_getElem (by rw [hxl]; exact hi)⟩
  obtain ⟨y0, e0⟩ := hx 0 (by omega)
  obtain ⟨y1, e1⟩ := hx 1 (by omega)
  obtain ⟨y2, e2⟩ := hx 2 (by omega)
  obtain ⟨y3, e3⟩ := hx 3 (by omega)
  obtain ⟨y4, e4⟩ := hx 4 (by omega)
  obtain ⟨y5, e5⟩ := hx 5 (by omega)
  obtain ⟨y6, e6⟩ := hx 6 (by omega)
  have t0 := (hf 0 _ rfl).trans e0
  have t1 := (hf 1 _ rfl).trans e1
  have t2 := (hf 2 _ rfl).trans e2
  have t3 := (hf 3 _ rfl).trans e3
  have t4 := (hf 4 _ rfl).trans e4
  have t5 := (hf 5 _ rfl).trans e5
  have t6 := (hf 6 _ rfl).trans e6
  simp [cellsInt, cellsRect, cellsWide, cellsByte] at t0 t1 t2 t3 t4 t5 t6
  obtain ⟨n0, k0, _, _⟩ := DataW.trod_int Try.underlying3 t0
  obtain ⟨n1, k1, _, _⟩ := DataW.trod_int Try.underlying3 t1
  obtain ⟨n2, k2, _, _⟩ := DataW.trod_int Try.underlying3 t2
  obtain ⟨n3, k3, _, _⟩ := DataW.trod_int Try.underlying3 t3
  obtain ⟨z0, z1, z2, z3, m, _, _, u0, u1, u2, u3⟩ := trod_struct4 Try.underlying23 t4
  simp [cellsInt] at u0 u1 u2 u3
  obtain ⟨n4, k4, _, _⟩ := DataW.trod_int Try.underlying3 u0
  obtain ⟨n5, k5, _, _⟩ := DataW.trod_int Try.underlying3 u1
  obtain ⟨n6, k6, _, _⟩ := DataW.trod_int Try.underlying3 u2
  obtain ⟨n7, k7, _, _⟩ := DataW.trod_int Try.underlying3 u3
  obtain ⟨z0', z1', z2', z3', m', _, _, u0', u1', u2', u3'⟩ := trod_struct4 Try.underlying39 t5
  simp [cellsU16] at u0' u1' u2' u3'
  obtain ⟨n8, k8, _, q8⟩ := DataW.trod_int Try.underlying37 u0'
  obtain ⟨n9, k9, _, q9⟩ := DataW.trod_int Try.underlying37 u1'
  obtain ⟨n10, k10, _, q10⟩ := DataW.trod_int Try.underlying37 u2'
  obtain ⟨n11, k11, _, q11⟩ := DataW.trod_int Try.underlying37 u3'
  obtain ⟨n12, k12, _, q12⟩ := DataW.trod_int Try.underlying5 t6
  simp at k0 k1 k2 k3 k4 k5 k6 k7 k8 k9 k10 k11 k12
  subst k0 k1 k2 k3 k4 k5 k6 k7 k8 k9 k10 k11 k12
  exact ⟨⟨n0, n1, n2, n3, n4, n5, n6, n7, n8, n9, n10, n11, n12⟩, rfl, (bounds_u8 q12).1, (bounds_u8 q12).2⟩

theorem open_steps (hv : Value.okWide Try.prog w r b0 55 v) (h : DataW.Trod enc Try.prog w base (fun _ => true) held 55 v d p) (hs : ∀ n ∈ d.weights Try.prog 55, n ≤ reachBytes) :
    ∃ (B : Option Addr) (cB : Nat) (l : List StepD), v = .slice B l.length cB ∧ StepsAt w B l ∧ (∀ q ∈ l, OkS q) ∧ l.length ≤ Rows.uptoBulk d := by
  obtain ⟨a', len', cap0, rfl⟩ := okWide_slice Try.underlying55 hv
  obtain ⟨fuel, hf⟩ := h
  rcases open_slice Try.underlying55 hf with ⟨hcs, _⟩ | ⟨a, len, cap, m, n, D, Pl, hcs, _, hl, hm, hmm, hx, hi⟩
  · simp [Value.cells] at hcs
    obtain ⟨rfl, rfl, rfl⟩ := hcs
    exact ⟨none, 0, [], rfl, ⟨fun _ => rfl, fun ad e => by cases e⟩, fun q hq => by simp at hq, Nat.zero_le _⟩
  · simp [Value.cells] at hcs
    obtain ⟨rfl, rfl, rfl⟩ := hcs
    simp only [if_true] at hmm
    subst hmm
    simp only [Prod.mk.injEq] at hx
    obtain ⟨rfl, rfl⟩ := hx
    have hw := hs (((List.range len').map D).length * 80 + ((List.range (m - len')).map fun j => D (len' + j)).length * 80) (by
      simp [DataW.weights, Try.underlying55, bytesStep]
      first | (left; omega) | omega | skip)
    unfold reachBytes at hw
    simp at hw
    have hch : ∀ i, i < len' → ∃ q : StepD, (∀ j u, (stepV q)[j]? = some u → w.cell? (a.add (i * 13 + j)) = some u) ∧ OkS q := fun i hil => by
      obtain ⟨cs', hc, ht⟩ := hi i (by omega)
      rw [cellsStep] at hc
      obtain ⟨q, rfl, hq⟩ := step_of ht
      refine ⟨q, fun j u hu => ?_, hq⟩
      obtain ⟨_, _, hat⟩ := World.cells?_some hc
      have hj : j < 13 := by
        rcases Nat.lt_or_ge j 13 with h0 | h0
        · exact h0
        · rw [List.getElem?_eq_none (by simpa [stepV] using h0)] at hu; cases hu
      rw [← Go.Deep.add_add, hat j hj]
      exact hu
    let f : Nat → StepD := fun i => if h : i < len' then Classical.choose (hch i h) else ⟨0, 0, 0, 0, 0, 0, 0, 0, 0, 0, 0, 0, 0⟩
    have hf1 : ∀ i, i < len' → (∀ j u, (stepV (f i))[j]? = some u → w.cell? (a.add (i * 13 + j)) = some u) ∧ OkS (f i) := fun i hil => by
      have : f i = Classical.choose (hch i hil) := dif_pos hil
      rw [this]
      exact Classical.choose_spec (hch i hil)
    refine ⟨some a, m, (List.range len').map f, by simp, ⟨(fun e => by cases e), fun ad e i q hq j u hu => ?_⟩, fun q hq => ?_, by
      have := length_le ((List.range len').map D)
      simp only [Rows.uptoBulk, List.length_map, List.length_range] at this ⊢
      omega⟩
    · injection e with e
      subst e
      rw [List.getElem?_map] at hq
      rcases Nat.lt_or_ge i len' with hil | hil
      · rw [List.getElem?_range hil] at hq
        simp at hq
        subst hq
        exact (hf1 i hil).1 j u hu
      · rw [List.getElem?_eq_none (by simpa using hil)] at hq
        simp at hq
    · obtain ⟨i, hi', rfl⟩ := List.mem_map.1 hq
      exact (hf1 i (by simpa using hi')).2
end
end Go.Proofs.Ytkhgobeeaiagfaa
