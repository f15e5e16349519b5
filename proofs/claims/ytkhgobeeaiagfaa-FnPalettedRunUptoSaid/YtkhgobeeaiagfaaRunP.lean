/- Plain: scripts of parts and settings: the views and the bytes that they show. -/
import Derived.Test.YtkhgobeeaiagfaaSubQ
namespace Go.Proofs.Ytkhgobeeaiagfaa
open Go.RowKit
set_option linter.unusedVariables false

/-- A step of a script. -/
structure StepD where
  op : Int
  im : Int
  x : Int
  y : Int
  r0 : Int
  r1 : Int
  r2 : Int
  r3 : Int
  v0 : Int
  v1 : Int
  v2 : Int
  v3 : Int
  ix : Int
/-- A view: its rectangle, from which byte on, and whether it shows anything. -/
structure ViewD where
  x0 : Int
  y0 : Int
  x1 : Int
  y1 : Int
  base : Nat
  on : Bool
def zeroV : ViewD := ⟨0, 0, 0, 0, 0, false⟩
/-- The index of a step is a byte. -/
def OkS (p : StepD) : Prop := 0 ≤ p.ix ∧ p.ix ≤ 255
/-- What a step sets. -/
def putS (zs : List Int) (k : Nat) (p : StepD) : List Int := zs.set k p.ix
theorem putS_length (zs : List Int) (k : Nat) (p : StepD) : (putS zs k p).length = zs.length := List.length_set
theorem putS_bytes {zs : List Int} (h : Bytes zs) (k : Nat) {p : StepD} (hp : OkS p) : Bytes (putS zs k p) := by
  intro z hz
  rcases List.mem_or_eq_of_mem_set hz with hz | rfl
  · exact h z hz
  · exact hp

/-- The common part of a view and a rectangle shows something. -/
def Meets (v : ViewD) (p : StepD) : Prop := v.on = true ∧ max v.x0 p.r0 < min v.x1 p.r2 ∧ max v.y0 p.r1 < min v.y1 p.r3
instance (v : ViewD) (p : StepD) : Decidable (Meets v p) := by unfold Meets; infer_instance
/-- The view through a rectangle. -/
def seenV (s : Int) (v : ViewD) (p : StepD) : ViewD :=
  if Meets v p then ⟨max v.x0 p.r0, max v.y0 p.r1, min v.x1 p.r2, min v.y1 p.r3, v.base + ((max v.y0 p.r1 - v.y0) * s + (max v.x0 p.r0 - v.x0) * 1).toNat, true⟩ else zeroV
/-- A step sets a pixel of a view. -/
def Hits (v : ViewD) (p : StepD) : Prop := v.on = true ∧ Insd v.x0 v.y0 v.x1 v.y1 p.x p.y
instance (v : ViewD) (p : StepD) : Decidable (Hits v p) := by unfold Hits; infer_instance
def placeV (s : Int) (v : ViewD) (p : StepD) : Nat := v.base + ((p.y - v.y0) * s + (p.x - v.x0) * 1).toNat
/-- The bytes behind a setting. -/
def setV (s : Int) (zs : List Int) (v : ViewD) (p : StepD) : List Int := if Hits v p then putS zs (placeV s v p) p else zs
/-- One step. -/
def stepG (s : Int) (st : List Int × List ViewD) (p : StepD) : List Int × List ViewD :=
  if p.im < 0 ∨ (st.2.length : Int) ≤ p.im then st
  else if p.op = 0 then (setV s st.1 (st.2.getD p.im.toNat zeroV) p, st.2)
  else if p.op = 1 then (st.1, st.2 ++ [seenV s (st.2.getD p.im.toNat zeroV) p])
  else st
def runG (s : Int) (st : List Int × List ViewD) (l : List StepD) : List Int × List ViewD := l.foldl (stepG s) st
theorem runG_snoc (s : Int) (st : List Int × List ViewD) (l : List StepD) {k : Nat} {p : StepD} (h : l[k]? = some p) : runG s st (l.take (k + 1)) = stepG s (runG s st (l.take k)) p := by
  obtain ⟨hk, rfl⟩ := List.getElem?_eq_some_iff.1 h
  unfold runG
  rw [List.take_succ_eq_append_getElem hk, List.foldl_append]
  rfl
theorem stepG_skip (s : Int) (st : List Int × List ViewD) (p : StepD) (h : p.im < 0 ∨ (st.2.length : Int) ≤ p.im) : stepG s st p = st := by unfold stepG; rw [if_pos h]
theorem stepG_set (s : Int) (st : List Int × List ViewD) (p : StepD) (h0 : 0 ≤ p.im) (h1 : p.im < st.2.length) (ho : p.op = 0) : stepG s st p = (setV s st.1 (st.2.getD p.im.toNat zeroV) p, st.2) := by
  unfold stepG; rw [if_neg (by omega), if_pos ho]
theorem stepG_sub (s : Int) (st : List Int × List ViewD) (p : StepD) (h0 : 0 ≤ p.im) (h1 : p.im < st.2.length) (ho : p.op = 1) : stepG s st p = (st.1, st.2 ++ [seenV s (st.2.getD p.im.toNat zeroV) p]) := by
  unfold stepG; rw [if_neg (by omega), if_neg (by omega), if_pos ho]
theorem stepG_other (s : Int) (st : List Int × List ViewD) (p : StepD) (h0 : 0 ≤ p.im) (h1 : p.im < st.2.length) (ho : p.op ≠ 0) (ho' : p.op ≠ 1) : stepG s st p = st := by
  unfold stepG; rw [if_neg (by omega), if_neg ho, if_neg ho']

/-- A view that fits the bytes. -/
def GoodV (s : Int) (n : Nat) (v : ViewD) : Prop := v.base ≤ n ∧ Fits v.x0 v.y0 v.x1 v.y1 s 1 ((n - v.base : Nat) : Int) ∧ (v.on = false → Empt v.x0 v.y0 v.x1 v.y1 ∧ v.base = 0) ∧ (v.on = true → ¬ Empt v.x0 v.y0 v.x1 v.y1)
def GoodG (s : Int) (n : Nat) (st : List Int × List ViewD) : Prop := st.1.length = n ∧ Bytes st.1 ∧ (∀ v ∈ st.2, GoodV s n v) ∧ 0 < st.2.length ∧ (st.2.getD 0 zeroV).base = 0
theorem zeroV_good {s : Int} (hs : Near s) (n : Nat) : GoodV s n zeroV := by
  refine ⟨Nat.zero_le _, ⟨⟨⟨?_, ?_, ?_, ?_⟩, ?_⟩, hs, Or.inl (Or.inl (Int.le_refl _))⟩, fun _ => ⟨Or.inl (Int.le_refl _), rfl⟩, fun h => by cases h⟩
  all_goals first | (unfold Near zeroV; simp; done) | (unfold zeroV; simp; done) | (unfold zeroV Near; omega)
/-- The place of a part in the bytes. -/
theorem seen_place {s : Int} {n : Nat} {v : ViewD} {p : StepD} (h : GoodV s n v) (hm : Meets v p) :
    ∃ k : Nat, (max v.y0 p.r1 - v.y0) * s + (max v.x0 p.r0 - v.x0) * 1 = k ∧ v.base + k + 1 ≤ n ∧ (seenV s v p) = ⟨max v.x0 p.r0, max v.y0 p.r1, min v.x1 p.r2, min v.y1 p.r3, v.base + k, true⟩ := by
  obtain ⟨_, n5, n6⟩ := id hm
  have hI : Insd v.x0 v.y0 v.x1 v.y1 (max v.x0 p.r0) (max v.y0 p.r1) := (within_of v.x0 v.y0 v.x1 v.y1 p.r0 p.r1 p.r2 p.r3).insd ⟨Int.le_refl _, n5, Int.le_refl _, n6⟩
  obtain ⟨k, hk, hkn⟩ := h.2.1.place (z := 1) rfl hI
  refine ⟨k, hk, by have := h.1; omega, ?_⟩
  unfold seenV
  rw [if_pos hm, hk, Int.toNat_natCast]
theorem seen_good {s : Int} {n : Nat} {v : ViewD} (p : StepD) (hs : Near s) (h : GoodV s n v) : GoodV s n (seenV s v p) := by
  by_cases hm : Meets v p
  · obtain ⟨k, hk, hkn, e⟩ := seen_place h hm
    rw [e]
    obtain ⟨_, n5, n6⟩ := id hm
    have hF := fits_sub h.2.1 (within_of v.x0 v.y0 v.x1 v.y1 p.r0 p.r1 p.r2 p.r3) n5 n6 hk (by omega)
    refine ⟨by show v.base + k ≤ n; omega, ?_, (fun h' => by cases h'), (fun _ => by show ¬ Empt (max v.x0 p.r0) (max v.y0 p.r1) (min v.x1 p.r2) (min v.y1 p.r3); unfold Empt; omega)⟩
    show Fits _ _ _ _ s 1 ((n - (v.base + k) : Nat) : Int)
    rw [show n - (v.base + k) = n - v.base - k by omega]
    exact hF
  · unfold seenV
    rw [if_neg hm]
    exact zeroV_good hs n
/-- The place of a pixel in the bytes. -/
theorem hit_place {s : Int} {n : Nat} {v : ViewD} {p : StepD} (h : GoodV s n v) (hm : Hits v p) :
    ∃ k : Nat, (p.y - v.y0) * s + (p.x - v.x0) * 1 = k ∧ v.base + k + 1 ≤ n ∧ placeV s v p = v.base + k := by
  obtain ⟨k, hk, hkn⟩ := h.2.1.place (z := 1) rfl hm.2
  refine ⟨k, hk, by have := h.1; omega, ?_⟩
  unfold placeV
  rw [hk, Int.toNat_natCast]
theorem mem_getD {vs : List ViewD} {i : Nat} (h : i < vs.length) : vs.getD i zeroV ∈ vs := by
  rw [List.getD_eq_getElem?_getD, List.getElem?_eq_getElem h]
  exact List.getElem_mem h
theorem stepG_good {s : Int} {n : Nat} {st : List Int × List ViewD} {p : StepD} (hs : Near s) (hp : OkS p) (h : GoodG s n st) : GoodG s n (stepG s st p) := by
  by_cases h0 : p.im < 0 ∨ (st.2.length : Int) ≤ p.im
  · rw [stepG_skip s st p h0]; exact h
  · have hg := h.2.2.1 _ (mem_getD (vs := st.2) (i := p.im.toNat) (by omega))
    by_cases ho : p.op = 0
    · rw [stepG_set s st p (by omega) (by omega) ho]
      refine ⟨?_, ?_, h.2.2.1, h.2.2.2⟩
      · unfold setV
        split
        · rw [putS_length]; exact h.1
        · exact h.1
      · unfold setV
        split
        · exact putS_bytes h.2.1 _ hp
        · exact h.2.1
    · by_cases ho' : p.op = 1
      · rw [stepG_sub s st p (by omega) (by omega) ho']
        refine ⟨h.1, h.2.1, fun v hv => ?_, by simp, ?_⟩
        · rcases List.mem_append.1 hv with hv | hv
          · exact h.2.2.1 v hv
          · rw [List.mem_singleton] at hv
            subst hv
            exact seen_good p hs hg
        · have := h.2.2.2.1
          simp only [List.getD_eq_getElem?_getD]
          rw [List.getElem?_append_left this, ← List.getD_eq_getElem?_getD]
          exact h.2.2.2.2
      · rw [stepG_other s st p (by omega) (by omega) ho ho']; exact h
theorem runG_good {s : Int} {n : Nat} (hs : Near s) : ∀ (l : List StepD) {st : List Int × List ViewD}, (∀ p ∈ l, OkS p) → GoodG s n st → GoodG s n (runG s st l)
  | [], st, _, h => h
  | p :: l, st, hp, h => runG_good hs l (fun q hq => hp q (List.mem_cons_of_mem _ hq)) (stepG_good hs (hp p (List.mem_cons_self ..)) h)
theorem stepG_len {s : Int} {st : List Int × List ViewD} {p : StepD} : (stepG s st p).2.length ≤ st.2.length + 1 := by
  unfold stepG
  split
  · omega
  · split
    · simp
    · split
      · simp
      · omega
theorem runG_len {s : Int} : ∀ (l : List StepD) {st : List Int × List ViewD}, (runG s st l).2.length ≤ st.2.length + l.length
  | [], st => Nat.le_refl _
  | p :: l, st => by
    have h1 := runG_len (s := s) l (st := stepG s st p)
    have h2 := stepG_len (s := s) (st := st) (p := p)
    show (runG s (stepG s st p) l).2.length ≤ _
    rw [List.length_cons]
    omega
/-- The first view: the image itself. -/
def firstV (x0 y0 x1 y1 : Int) : ViewD := ⟨x0, y0, x1, y1, 0, decide (¬ Empt x0 y0 x1 y1)⟩
theorem first_good {x0 y0 x1 y1 s : Int} {zs : List Int} (hF : Fits x0 y0 x1 y1 s 1 zs.length) (hy : Bytes zs) : GoodG s zs.length (zs, [firstV x0 y0 x1 y1]) := by
  refine ⟨rfl, hy, fun v hv => ?_, by simp, rfl⟩
  rw [List.mem_singleton] at hv
  subst hv
  refine ⟨Nat.zero_le _, hF, fun h => ⟨?_, rfl⟩, fun h => ?_⟩
  · simp [firstV] at h
    exact h
  · simp [firstV] at h
    exact h

end Go.Proofs.Ytkhgobeeaiagfaa
