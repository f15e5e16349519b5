/- Each argument of the laws of this seat, opened: its value written out, its numbers within their kinds, its bytes in memory. -/
import Derived.Test.YtmhmahdojcajpaaRows
import Derived.Test.YtmhmahdojcajpaaPlain
import Derived.ProofKit
import Derived.OpenShut
import Derived.ChangeOld
import Derived.Below
import Derived.SizedLaws
import Derived.Lib.SmallJoins
import Derived.Deep.Strs
namespace Go.Proofs.Ytmhmahdojcajpaa
open Go.ChangeShapes Go.WideShapes Go.ChangeAt Go.RowKit Go.Joins Go.Deep
set_option maxRecDepth 100000
set_option linter.unusedVariables false

theorem own : ownKnob Try.prog.godebug = none := by kernel_rfl
theorem laidOut : laidOutB Try.prog = true := by kernel_rfl
theorem cellsRect : Try.prog.cellsOf 23 = 4 := by kernel_rfl
theorem cellsInt : Try.prog.cellsOf 3 = 1 := by kernel_rfl
theorem cellsBytes : Try.prog.cellsOf 24 = 1 := by kernel_rfl
theorem cellsByte : Try.prog.cellsOf 5 = 1 := by kernel_rfl
theorem cellsDeep : Try.prog.cellsOf 26 = 6 := by kernel_rfl
theorem cellsWide : Try.prog.cellsOf 60 = 4 := by kernel_rfl
theorem bytesByte : Try.prog.bytesOf 5 = 1 := by kernel_rfl

theorem list6 {α : Type} {l : List α} (h : l.length = 6) : ∃ a b c d e f, l = [a, b, c, d, e, f] := by
  match l, h with
  | [a, b, c, d, e, f], _ => exact ⟨a, b, c, d, e, f, rfl⟩

section
variable {H : Type} {enc : TypeId × Value → H} {w : World} {base b0 : Nat} {spare : Nat → Bool} {held : Bool} {r : Reach} {v : Value} {d : DataW H} {p : List MemPlace}

theorem open_i64 (hv : Value.okWide Try.prog w r b0 3 v) (h : DataW.Trod enc Try.prog w base spare held 3 v d p) : ∃ n, v = .int .i64 n ∧ -9223372036854775808 ≤ n ∧ n ≤ 9223372036854775807 := by
  obtain ⟨n, rfl, _, _, wn⟩ := open_int Try.underlying3 hv h
  exact ⟨n, rfl, bounds_i64 wn⟩
theorem open_u16 (hv : Value.okWide Try.prog w r b0 35 v) (h : DataW.Trod enc Try.prog w base spare held 35 v d p) : ∃ n, v = .int .u16 n ∧ 0 ≤ n ∧ n ≤ 65535 := by
  obtain ⟨n, rfl, _, _, wn⟩ := open_int Try.underlying35 hv h
  exact ⟨n, rfl, bounds_u16 wn⟩
theorem open_rect (hv : Value.okWide Try.prog w r b0 23 v) (h : DataW.Trod enc Try.prog w base spare held 23 v d p) :
    ∃ x0 y0 x1 y1, v = .agg #[.int .i64 x0, .int .i64 y0, .int .i64 x1, .int .i64 y1] := by
  obtain ⟨c0, c1, c2, c3, z0, z1, z2, z3, m, rfl, _, _, t0, t1, t2, t3⟩ := open_agg4 Try.underlying23 (by kernel_rfl) cellsRect hv h
  obtain ⟨n0, e0, _, _⟩ := DataW.trod_int Try.underlying3 t0
  obtain ⟨n1, e1, _, _⟩ := DataW.trod_int Try.underlying3 t1
  obtain ⟨n2, e2, _, _⟩ := DataW.trod_int Try.underlying3 t2
  obtain ⟨n3, e3, _, _⟩ := DataW.trod_int Try.underlying3 t3
  simp at e0 e1 e2 e3
  subst e0 e1 e2 e3
  exact ⟨n0, n1, n2, n3, rfl⟩
theorem open_wide (hv : Value.okWide Try.prog w r b0 60 v) (h : DataW.Trod enc Try.prog w base spare held 60 v d p) :
    ∃ n0 n1 n2 n3, v = .agg #[.int .u16 n0, .int .u16 n1, .int .u16 n2, .int .u16 n3] ∧ 0 ≤ n0 ∧ n0 ≤ 65535 ∧ 0 ≤ n1 ∧ n1 ≤ 65535 ∧ 0 ≤ n2 ∧ n2 ≤ 65535 ∧ 0 ≤ n3 ∧ n3 ≤ 65535 := by
  obtain ⟨c0, c1, c2, c3, y0, y1, y2, y3, m, rfl, _, _, t0, t1, t2, t3⟩ := open_agg4 Try.underlying60 (by kernel_rfl) cellsWide hv h
  obtain ⟨n0, e0, _, q0⟩ := DataW.trod_int Try.underlying35 t0
  obtain ⟨n1, e1, _, q1⟩ := DataW.trod_int Try.underlying35 t1
  obtain ⟨n2, e2, _, q2⟩ := DataW.trod_int Try.underlying35 t2
  obtain ⟨n3, e3, _, q3⟩ := DataW.trod_int Try.underlying35 t3
  simp at e0 e1 e2 e3
  subst e0 e1 e2 e3
  exact ⟨n0, n1, n2, n3, rfl, (bounds_u16 q0).1, (bounds_u16 q0).2, (bounds_u16 q1).1, (bounds_u16 q1).2, (bounds_u16 q2).1, (bounds_u16 q2).2, (bounds_u16 q3).1, (bounds_u16 q3).2⟩

/-- A slice of bytes that came in. -/
theorem open_bytes {fuel : Nat} {u : Value} {y : DataW H × List MemPlace} (h : DataW.trod enc Try.prog w base (fun _ => true) held fuel 24 [u] = some y)
    (hs : ∀ n ∈ y.1.weights Try.prog 24, n ≤ reachBytes) :
    ∃ (A : Option Addr) (c : Nat) (zs : List Int), u = .slice A zs.length c ∧ Reads w A zs ∧ Bytes zs ∧ Small zs ∧ (A = none → c = 0) := by
  rcases open_ints Try.underlying24 Try.underlying5 cellsByte h with ⟨hcs, _⟩ | ⟨a, l, c, zs, hcs, _, hl, _, hz, hx, hcell, hwz⟩
  · simp at hcs
    subst hcs
    exact ⟨none, 0, [], rfl, ⟨fun _ => rfl, fun _ e => (by cases e)⟩, fun z hz => by simp at hz, by simp [Small], fun _ => rfl⟩
  · simp at hcs
    subst hcs
    simp only [if_true] at hz
    subst hx
    have hw := hs ((zs.take l).length + (zs.drop l).length) (by simp [DataW.weights, Try.underlying24, bytesByte, lits])
    have hlen : (zs.take l).length = l := by rw [List.length_take]; omega
    unfold reachBytes at hw
    refine ⟨some a, c, zs.take l, by rw [hlen], ⟨fun e => (by cases e), fun ad e j hj => ?_⟩, fun z hzm => bounds_u8 (hwz z (List.mem_of_mem_take hzm)), by unfold Small; omega, fun e => by cases e⟩
    injection e with e
    subst e
    rw [hlen] at hj
    rw [hcell j (by omega), List.getD_eq_getElem?_getD, List.getD_eq_getElem?_getD, List.getElem?_take, if_pos hj]

theorem open_deep (hv : Value.okWide Try.prog w r b0 26 v) (h : DataW.Trod enc Try.prog w base (fun _ => true) held 26 v d p) (hs : ∀ n ∈ d.weights Try.prog 26, n ≤ reachBytes) :
    ∃ (x0 y0 x1 y1 s : Int) (A : Option Addr) (c : Nat) (zs : List Int), v = .agg #[.int .i64 x0, .int .i64 y0, .int .i64 x1, .int .i64 y1, .int .i64 s, .slice A zs.length c] ∧ Reads w A zs ∧ Bytes zs ∧ Small zs ∧ (A = none → c = 0) := by
  obtain ⟨cs, rfl, hsz⟩ := okWide_struct Try.underlying26 hv
  obtain ⟨l⟩ := cs
  obtain ⟨a0, a1, a2, a3, a4, a5, rfl⟩ := list6 (hsz.trans cellsDeep)
  obtain ⟨fuel, hf⟩ := h
  obtain ⟨y0, y1, y2, n, hx, _, t0, t1, t2⟩ := trod_struct3 Try.underlying26 hf
  simp only [Prod.mk.injEq] at hx
  obtain ⟨rfl, rfl⟩ := hx
  simp [Value.cells, cellsRect, cellsInt, cellsBytes] at t0 t1 t2
  obtain ⟨z0, z1, z2, z3, m, _, _, u0, u1, u2, u3⟩ := trod_struct4 Try.underlying23 t0
  simp [cellsInt] at u0 u1 u2 u3
  obtain ⟨n0, e0, _, _⟩ := DataW.trod_int Try.underlying3 u0
  obtain ⟨n1, e1, _, _⟩ := DataW.trod_int Try.underlying3 u1
  obtain ⟨n2, e2, _, _⟩ := DataW.trod_int Try.underlying3 u2
  obtain ⟨n3, e3, _, _⟩ := DataW.trod_int Try.underlying3 u3
  obtain ⟨n4, e4, _, _⟩ := DataW.trod_int Try.underlying3 t1
  simp at e0 e1 e2 e3 e4
  subst e0 e1 e2 e3 e4
  obtain ⟨A, c, zs, rfl, hr, hb, hl, hn⟩ := open_bytes t2 (fun k hk => hs k (by
    simp only [DataW.weights, Try.underlying26, DataW.weightsEach, List.map_cons, List.mem_append]
    exact Or.inr (Or.inr (Or.inl hk))))
  exact ⟨n0, n1, n2, n3, n4, A, c, zs, rfl, hr, hb, hl, hn⟩
end
end Go.Proofs.Ytmhmahdojcajpaa
