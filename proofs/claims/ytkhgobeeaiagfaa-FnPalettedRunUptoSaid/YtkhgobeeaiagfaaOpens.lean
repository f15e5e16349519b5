/- Each argument of the laws of this seat, opened: its value written out, its numbers within their kinds, its bytes in memory. -/
import Derived.Test.YtkhgobeeaiagfaaRows
import Derived.Test.YtkhgobeeaiagfaaPlain
import Derived.Test.YtkhgobeeaiagfaaPal
import Derived.JoinedCond
import Derived.Deep.CondSized
import Derived.ProofKit
import Derived.OpenShut
import Derived.ChangeOld
import Derived.Below
import Derived.SizedLaws
import Derived.Lib.SmallJoins
import Derived.Deep.Strs
namespace Go.Proofs.Ytkhgobeeaiagfaa
open Go.ChangeShapes Go.WideShapes Go.ChangeAt Go.RowKit Go.Joins Go.Deep
set_option maxRecDepth 100000
set_option linter.unusedVariables false

theorem own : ownKnob Try.prog.godebug = none := by kernel_rfl
theorem laidOut : laidOutB Try.prog = true := by kernel_rfl
theorem cellsRect : Try.prog.cellsOf 23 = 4 := by kernel_rfl
theorem cellsInt : Try.prog.cellsOf 3 = 1 := by kernel_rfl
theorem cellsBytes : Try.prog.cellsOf 24 = 1 := by kernel_rfl
theorem cellsByte : Try.prog.cellsOf 5 = 1 := by kernel_rfl
theorem cellsPlate : Try.prog.cellsOf 27 = 7 := by kernel_rfl
theorem cellsPal : Try.prog.cellsOf 25 = 1 := by kernel_rfl
theorem cellsWide : Try.prog.cellsOf 39 = 4 := by kernel_rfl
theorem cellsU16 : Try.prog.cellsOf 37 = 1 := by kernel_rfl
theorem bytesByte : Try.prog.bytesOf 5 = 1 := by kernel_rfl

theorem list7 {α : Type} {l : List α} (h : l.length = 7) : ∃ a0 a1 a2 a3 a4 a5 a6, l = [a0, a1, a2, a3, a4, a5, a6] := by
  match l, h with
  | [a0, a1, a2, a3, a4, a5, a6], _ => exact ⟨a0, a1, a2, a3, a4, a5, a6, rfl⟩
theorem list4 {α : Type} {l : List α} (h : l.length = 4) : ∃ a0 a1 a2 a3, l = [a0, a1, a2, a3] := by
  match l, h with
  | [a0, a1, a2, a3], _ => exact ⟨a0, a1, a2, a3, rfl⟩
theorem one_le {H : Type} (d : DataW H) : 1 ≤ Rows.uptoBulk d := by
  cases d with
  | lit l => cases l <;> simp [Rows.uptoBulk]
  | _ => simp [Rows.uptoBulk]
theorem part_le {H : Type} {d : DataW H} {l : List (DataW H)} (h : d ∈ l) : Rows.uptoBulk d ≤ Rows.uptoBulkAll l := by
  induction l with
  | nil => cases h
  | cons x r ih =>
    simp only [Rows.uptoBulkAll]
    cases List.mem_cons.1 h with
    | inl e => subst e; omega
    | inr e => have := ih e; omega
theorem length_le {H : Type} (l : List (DataW H)) : l.length ≤ Rows.uptoBulkAll l := by
  induction l with
  | nil => simp [Rows.uptoBulkAll]
  | cons x r ih => have := one_le x; simp only [Rows.uptoBulkAll, List.length_cons]; omega
theorem bulk_bound {H : Type} {l : List (DataW H)} (hk : Rows.uptoSmall H l = true) : Rows.uptoBulkAll l ≤ 1048576 := of_decide_eq_true hk
/-- All parts of a color are numbers of 16 bits. -/
def OkC (p : Int × Int × Int × Int) : Prop := 0 ≤ p.1 ∧ p.1 ≤ 65535 ∧ 0 ≤ p.2.1 ∧ p.2.1 ≤ 65535 ∧ 0 ≤ p.2.2.1 ∧ p.2.2.1 ≤ 65535 ∧ 0 ≤ p.2.2.2 ∧ p.2.2.2 ≤ 65535

section
variable {H : Type} {enc : TypeId × Value → H} {w : World} {base b0 : Nat} {spare : Nat → Bool} {held : Bool} {r : Reach} {v : Value} {d : DataW H} {p : List MemPlace}

theorem open_i64 (hv : Value.okWide Try.prog w r b0 3 v) (h : DataW.Trod enc Try.prog w base spare held 3 v d p) : ∃ n, v = .int .i64 n ∧ -9223372036854775808 ≤ n ∧ n ≤ 9223372036854775807 := by
  obtain ⟨n, rfl, _, _, wn⟩ := open_int Try.underlying3 hv h
  exact ⟨n, rfl, bounds_i64 wn⟩
theorem open_u8 (hv : Value.okWide Try.prog w r b0 5 v) (h : DataW.Trod enc Try.prog w base spare held 5 v d p) : ∃ n, v = .int .u8 n ∧ 0 ≤ n ∧ n ≤ 255 := by
  obtain ⟨n, rfl, _, _, wn⟩ := open_int Try.underlying5 hv h
  exact ⟨n, rfl, bounds_u8 wn⟩
theorem open_rect (hv : Value.okWide Try.prog w r b0 23 v) (h : DataW.Trod enc Try.prog w base spare held 23 v d p) :
    ∃ x0 y0 x1 y1, v = .agg #[.int .i64 x0, .int .i64 y0, .int .i64 x1, .int .i64 y1] := by
  obtain ⟨c0, c1, c2, c3, z0, z1, z2, z3, m, rfl, _, _, t0, t1, t2, t3⟩ := open_agg4 Try.underlying23 (by kernel_rfl) cellsRect hv h
  obtain ⟨n0, e0, _, _⟩ := DataW.trod_int Try.underlying3 t0
  obtain ⟨n1, e1, _, _⟩ := DataW.trod_int Try.underlying3 t1
  obtain ⟨n2, e2, _, _⟩ := DataW.trod_int Try.underlying3 t2
  obtain ⟨n3, e3, _, _⟩ := DataW.trod_int Try.underlying3 t3
  simp at e0 e1 e2 e3
  subst e0 e1 e2 e3
  exact ⟨n0, n1, n2, n3, rfl⟩

/-- A slice of bytes that came in. -/
theorem open_bytes {fuel : Nat} {u : Value} {y : DataW H × List MemPlace} (h : DataW.trod enc Try.prog w base (fun _ => true) held fuel 24 [u] = some y)
    (hs : ∀ n ∈ y.1.weights Try.prog 24, n ≤ reachBytes) :
    ∃ (A : Option Addr) (c : Nat) (zs : List Int), u = .slice A zs.length c ∧ Reads w A zs ∧ Bytes zs ∧ Small zs ∧ (A = none → c = 0) := by
  rcases open_ints Try.underlying24 Try.underlying5 cellsByte h with ⟨hcs, _⟩ | ⟨a, l, c, zs, hcs, _, hl, _, hz, hx, hcell, hwz⟩
  · simp at hcs
    subst hcs
    exact ⟨none, 0, [], rfl, ⟨fun _ => rfl, fun _ e => (by cases e)⟩, fun z hz => by simp at hz, by simp [Small], fun _ => rfl⟩
  · simp at hcs
    subst hcs
    simp only [if_true] at hz
    subst hx
    have hw := hs ((zs.take l).length + (zs.drop l).length) (by simp [DataW.weights, Try.underlying24, bytesByte, lits])
    have hlen : (zs.take l).length = l := by rw [List.length_take]; omega
    unfold reachBytes at hw
    refine ⟨some a, c, zs.take l, by rw [hlen], ⟨fun e => (by cases e), fun ad e j hj => ?_⟩, fun z hzm => bounds_u8 (hwz z (List.mem_of_mem_take hzm)), by unfold Small; omega, fun e => by cases e⟩
    injection e with e
    subst e
    rw [hlen] at hj
    rw [hcell j (by omega), List.getD_eq_getElem?_getD, List.getD_eq_getElem?_getD, List.getElem?_take, if_pos hj]

theorem wide_of {fuel : Nat} {cs : List Value} {x : DataW H × List MemPlace} (h : DataW.trod enc Try.prog w base spare held fuel 39 cs = some x) : ∃ p, cs = colCells p ∧ OkC p := by
  obtain ⟨y0, y1, y2, y3, n, _, hl, t0, t1, t2, t3⟩ := trod_struct4 Try.underlying39 h
  rw [cellsWide] at hl
  obtain ⟨a0, a1, a2, a3, rfl⟩ := list4 hl
  simp [cellsU16] at t0 t1 t2 t3
  obtain ⟨n0, e0, _, q0⟩ := DataW.trod_int Try.underlying37 t0
  obtain ⟨n1, e1, _, q1⟩ := DataW.trod_int Try.underlying37 t1
  obtain ⟨n2, e2, _, q2⟩ := DataW.trod_int Try.underlying37 t2
  obtain ⟨n3, e3, _, q3⟩ := DataW.trod_int Try.underlying37 t3
  simp at e0 e1 e2 e3
  subst e0 e1 e2 e3
  exact ⟨(n0, n1, n2, n3), rfl, (bounds_u16 q0).1, (bounds_u16 q0).2, (bounds_u16 q1).1, (bounds_u16 q1).2, (bounds_u16 q2).1, (bounds_u16 q2).2, (bounds_u16 q3).1, (bounds_u16 q3).2⟩
theorem rowCells_at {ps : List (Int × Int × Int × Int)} {j : Nat} {u : Value} (h : (rowCells ps)[j]? = some u) : ∃ i q, i < ps.length ∧ q < 4 ∧ j = i * 4 + q ∧ (colCells (ps.getD i noCol))[q]? = some u := by
  have hj : j < ps.length * 4 := by
    rcases Nat.lt_or_ge j (ps.length * 4) with h0 | h0
    · exact h0
    · rw [List.getElem?_eq_none (by rw [rowCells_length]; exact h0)] at h; cases h
  refine ⟨j / 4, j % 4, by omega, by omega, by omega, ?_⟩
  rw [← rowCells_get ps (j / 4) (j % 4) (by omega) (by omega), show j / 4 * 4 + j % 4 = j by omega]
  exact h
/-- A palette that came in. -/
theorem open_pal {fuel : Nat} {u : Value} {y : DataW H × List MemPlace} (h : DataW.trod enc Try.prog w base (fun _ => true) held fuel 25 [u] = some y) :
    ∃ (B : Option Addr) (k : Nat) (ps : List (Int × Int × Int × Int)), u = .slice B ps.length k ∧ PReads w B ps ∧ (∀ p ∈ ps, OkC p) ∧ ps.length ≤ Rows.uptoBulk y.1 := by
  rcases open_slice Try.underlying25 h with ⟨hcs, rfl⟩ | ⟨a, len, cap, m, n, D, Pl, hcs, _, hl, hm, hmm, rfl, hi⟩
  · simp at hcs
    subst hcs
    exact ⟨none, 0, [], rfl, ⟨fun _ => rfl, fun _ e => (by cases e)⟩, fun q hq => by simp at hq, by simp⟩
  · simp at hcs
    subst hcs
    simp only [if_true] at hmm
    subst hmm
    have hch : ∀ i, i < len → ∃ p : Int × Int × Int × Int, (∀ j u, (colCells p)[j]? = some u → w.cell? (a.add (i * 4 + j)) = some u) ∧ OkC p := fun i hil => by
      obtain ⟨cs', hc, ht⟩ := hi i (by omega)
      rw [cellsWide] at hc
      obtain ⟨q, rfl, hq⟩ := wide_of ht
      refine ⟨q, fun j u hu => ?_, hq⟩
      obtain ⟨_, _, hat⟩ := World.cells?_some hc
      have hj : j < 4 := by
        rcases Nat.lt_or_ge j 4 with h0 | h0
        · exact h0
        · rw [List.getElem?_eq_none (by simpa [colCells] using h0)] at hu; cases hu
      rw [← Go.Deep.add_add, hat j hj]
      exact hu
    let f : Nat → Int × Int × Int × Int := fun i => if h : i < len then Classical.choose (hch i h) else noCol
    have hf1 : ∀ i, i < len → (∀ j u, (colCells (f i))[j]? = some u → w.cell? (a.add (i * 4 + j)) = some u) ∧ OkC (f i) := fun i hil => by
      have : f i = Classical.choose (hch i hil) := dif_pos hil
      rw [this]
      exact Classical.choose_spec (hch i hil)
    refine ⟨some a, m, (List.range len).map f, by simp, ⟨(fun e => by cases e), fun ad e j u hu => ?_⟩, fun q hq => ?_, ?_⟩
    · injection e with e
      subst e
      obtain ⟨i, q, hi1, hq1, rfl, hcu⟩ := rowCells_at hu
      simp at hi1
      have e2 : ((List.range len).map f).getD i noCol = f i := by
        rw [List.getD_eq_getElem?_getD, List.getElem?_map, List.getElem?_range hi1]; rfl
      rw [e2] at hcu
      exact (hf1 i hi1).1 q u hcu
    · obtain ⟨i, hi', rfl⟩ := List.mem_map.1 hq
      exact (hf1 i (by simpa using hi')).2
    · have := length_le ((List.range len).map D)
      simp only [Rows.uptoBulk, List.length_map, List.length_range] at this ⊢
      omega
theorem open_pal' (hv : Value.okWide Try.prog w r b0 25 v) (h : DataW.Trod enc Try.prog w base (fun _ => true) held 25 v d p) :
    ∃ (B : Option Addr) (k : Nat) (ps : List (Int × Int × Int × Int)), v = .slice B ps.length k ∧ PReads w B ps ∧ (∀ p ∈ ps, OkC p) ∧ ps.length ≤ Rows.uptoBulk d := by
  obtain ⟨a', len', cap0, rfl⟩ := okWide_slice Try.underlying25 hv
  obtain ⟨fuel, hf⟩ := h
  exact open_pal hf
theorem open_plate (hv : Value.okWide Try.prog w r b0 27 v) (h : DataW.Trod enc Try.prog w base (fun _ => true) held 27 v d p) (hs : ∀ n ∈ d.weights Try.prog 27, n ≤ reachBytes) :
    ∃ (x0 y0 x1 y1 s : Int) (A : Option Addr) (c : Nat) (zs : List Int) (B : Option Addr) (k : Nat) (ps : List (Int × Int × Int × Int)), v = .agg #[.int .i64 x0, .int .i64 y0, .int .i64 x1, .int .i64 y1, .int .i64 s, .slice A zs.length c, .slice B ps.length k] ∧ Reads w A zs ∧ Bytes zs ∧ Small zs ∧ (A = none → c = 0) ∧ PReads w B ps ∧ (∀ p ∈ ps, OkC p) ∧ ps.length ≤ Rows.uptoBulk d := by
  obtain ⟨cs, rfl, hsz⟩ := okWide_struct Try.underlying27 hv
  obtain ⟨l⟩ := cs
  obtain ⟨a0, a1, a2, a3, a4, a5, a6, rfl⟩ := list7 (hsz.trans cellsPlate)
  obtain ⟨fuel, hf⟩ := h
  obtain ⟨y0, y1, y2, y3, n, hx, _, t0, t1, t2, t3⟩ := trod_struct4 Try.underlying27 hf
  simp only [Prod.mk.injEq] at hx
  obtain ⟨rfl, rfl⟩ := hx
  simp [Value.cells, cellsRect, cellsInt, cellsBytes, cellsPal] at t0 t1 t2 t3
  obtain ⟨u0', u1', u2', u3', m, _, _, u0, u1, u2, u3⟩ := trod_struct4 Try.underlying23 t0
  simp [cellsInt] at u0 u1 u2 u3
  obtain ⟨n0, e0, _, _⟩ := DataW.trod_int Try.underlying3 u0
  obtain ⟨n1, e1, _, _⟩ := DataW.trod_int Try.underlying3 u1
  obtain ⟨n2, e2, _, _⟩ := DataW.trod_int Try.underlying3 u2
  obtain ⟨n3, e3, _, _⟩ := DataW.trod_int Try.underlying3 u3
  obtain ⟨n4, e4, _, _⟩ := DataW.trod_int Try.underlying3 t1
  simp at e0 e1 e2 e3 e4
  subst e0 e1 e2 e3 e4
  obtain ⟨A, c, zs, rfl, hr, hb, hl, hn⟩ := open_bytes t2 (fun k hk => hs k (by
    simp only [DataW.weights, Try.underlying27, DataW.weightsEach, List.map_cons, List.mem_append]
    exact Or.inr (Or.inr (Or.inl hk))))
  obtain ⟨B, k, ps, rfl, hp, ho, hbk⟩ := open_pal t3
  refine ⟨n0, n1, n2, n3, n4, A, c, zs, B, k, ps, rfl, hr, hb, hl, hn, hp, ho, ?_⟩
  simp only [Rows.uptoBulk, Rows.uptoBulkAll]
  omega
end
end Go.Proofs.Ytkhgobeeaiagfaa
