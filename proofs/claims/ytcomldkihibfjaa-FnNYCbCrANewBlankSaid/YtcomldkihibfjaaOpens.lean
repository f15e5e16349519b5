/- Each argument of the laws of this seat, opened: its value written out, its numbers within their kinds, its bytes in memory. -/
import Derived.Test.YtcomldkihibfjaaRows
import Derived.Test.YtcomldkihibfjaaPlain
import Derived.ProofKit
import Derived.OpenShut
import Derived.ChangeOld
import Derived.Below
import Derived.SizedLaws
import Derived.Lib.SmallJoins
import Derived.Deep.Strs
namespace Go.Proofs.Ytcomldkihibfjaa
open Go.ChangeShapes Go.WideShapes Go.ChangeAt Go.RowKit Go.Joins Go.Deep
set_option maxRecDepth 100000
set_option linter.unusedVariables false

theorem own : ownKnob Try.prog.godebug = none := by kernel_rfl
theorem laidOut : laidOutB Try.prog = true := by kernel_rfl
theorem cellsRect : Try.prog.cellsOf 23 = 4 := by kernel_rfl
theorem cellsInt : Try.prog.cellsOf 3 = 1 := by kernel_rfl
theorem cellsBytes : Try.prog.cellsOf 28 = 1 := by kernel_rfl
theorem cellsByte : Try.prog.cellsOf 5 = 1 := by kernel_rfl
theorem cellsFilm : Try.prog.cellsOf 30 = 12 := by kernel_rfl
theorem bytesByte : Try.prog.bytesOf 5 = 1 := by kernel_rfl

theorem list12 {α : Type} {l : List α} (h : l.length = 12) : ∃ a0 a1 a2 a3 a4 a5 a6 a7 a8 a9 a10 a11, l = [a0, a1, a2, a3, a4, a5, a6, a7, a8, a9, a10, a11] := by
  match l, h with
  | [a0, a1, a2, a3, a4, a5, a6, a7, a8, a9, a10, a11], _ => exact ⟨a0, a1, a2, a3, a4, a5, a6, a7, a8, a9, a10, a11, rfl⟩
theorem list9 {α : Type} {l : List α} (h : l.length = 9) : ∃ a0 a1 a2 a3 a4 a5 a6 a7 a8, l = [a0, a1, a2, a3, a4, a5, a6, a7, a8] := by
  match l, h with
  | [a0, a1, a2, a3, a4, a5, a6, a7, a8], _ => exact ⟨a0, a1, a2, a3, a4, a5, a6, a7, a8, rfl⟩

section
variable {H : Type} {enc : TypeId × Value → H} {w : World} {base b0 : Nat} {spare : Nat → Bool} {held : Bool} {r : Reach} {v : Value} {d : DataW H} {p : List MemPlace}

theorem open_i64 (hv : Value.okWide Try.prog w r b0 3 v) (h : DataW.Trod enc Try.prog w base spare held 3 v d p) : ∃ n, v = .int .i64 n ∧ -9223372036854775808 ≤ n ∧ n ≤ 9223372036854775807 := by
  obtain ⟨n, rfl, _, _, wn⟩ := open_int Try.underlying3 hv h
  exact ⟨n, rfl, bounds_i64 wn⟩
theorem open_rect (hv : Value.okWide Try.prog w r b0 23 v) (h : DataW.Trod enc Try.prog w base spare held 23 v d p) :
    ∃ x0 y0 x1 y1, v = .agg #[.int .i64 x0, .int .i64 y0, .int .i64 x1, .int .i64 y1] := by
  obtain ⟨c0, c1, c2, c3, z0, z1, z2, z3, m, rfl, _, _, t0, t1, t2, t3⟩ := open_agg4 Try.underlying23 (by kernel_rfl) cellsRect hv h
  obtain ⟨n0, e0, _, _⟩ := DataW.trod_int Try.underlying3 t0
  obtain ⟨n1, e1, _, _⟩ := DataW.trod_int Try.underlying3 t1
  obtain ⟨n2, e2, _, _⟩ := DataW.trod_int Try.underlying3 t2
  obtain ⟨n3, e3, _, _⟩ := DataW.trod_int Try.underlying3 t3
  simp at e0 e1 e2 e3
  subst e0 e1 e2 e3
  exact ⟨n0, n1, n2, n3, rfl⟩

/-- A slice of bytes that came in. -/
theorem open_bytes {fuel : Nat} {u : Value} {y : DataW H × List MemPlace} (h : DataW.trod enc Try.prog w base (fun _ => true) held fuel 28 [u] = some y)
    (hs : ∀ n ∈ y.1.weights Try.prog 28, n ≤ reachBytes) :
    ∃ (A : Option Addr) (c : Nat) (zs : List Int), u = .slice A zs.length c ∧ Reads w A zs ∧ Bytes zs ∧ Small zs ∧ (A = none → c = 0) := by
  rcases open_ints Try.underlying28 Try.underlying5 cellsByte h with ⟨hcs, _⟩ | ⟨a, l, c, zs, hcs, _, hl, _, hz, hx, hcell, hwz⟩
  · simp at hcs
    subst hcs
    exact ⟨none, 0, [], rfl, ⟨fun _ => rfl, fun _ e => (by cases e)⟩, fun z hz => by simp at hz, by simp [Small], fun _ => rfl⟩
  · simp at hcs
    subst hcs
    simp only [if_true] at hz
    subst hx
    have hw := hs ((zs.take l).length + (zs.drop l).length) (by simp [DataW.weights, Try.underlying28, bytesByte, lits])
    have hlen : (zs.take l).length = l := by rw [List.length_take]; omega
    unfold reachBytes at hw
    refine ⟨some a, c, zs.take l, by rw [hlen], ⟨fun e => (by cases e), fun ad e j hj => ?_⟩, fun z hzm => bounds_u8 (hwz z (List.mem_of_mem_take hzm)), by unfold Small; omega, fun e => by cases e⟩
    injection e with e
    subst e
    rw [hlen] at hj
    rw [hcell j (by omega), List.getD_eq_getElem?_getD, List.getD_eq_getElem?_getD, List.getElem?_take, if_pos hj]

theorem open_film (hv : Value.okWide Try.prog w r b0 30 v) (h : DataW.Trod enc Try.prog w base (fun _ => true) held 30 v d p) (hs : ∀ n ∈ d.weights Try.prog 30, n ≤ reachBytes) :
    ∃ (x0 y0 x1 y1 rt ys cs at4 : Int) (A1 A2 A3 A4 : Option Addr) (c1 c2 c3 c4 : Nat) (z1 z2 z3 z4 : List Int), v = .agg #[.int .i64 x0, .int .i64 y0, .int .i64 x1, .int .i64 y1, .int .i64 rt, .int .i64 ys, .int .i64 cs, .int .i64 at4, .slice A1 z1.length c1, .slice A2 z2.length c2, .slice A3 z3.length c3, .slice A4 z4.length c4] ∧ Reads w A1 z1 ∧ Bytes z1 ∧ Small z1 ∧ (A1 = none → c1 = 0) ∧ Reads w A2 z2 ∧ Bytes z2 ∧ Small z2 ∧ (A2 = none → c2 = 0) ∧ Reads w A3 z3 ∧ Bytes z3 ∧ Small z3 ∧ (A3 = none → c3 = 0) ∧ Reads w A4 z4 ∧ Bytes z4 ∧ Small z4 ∧ (A4 = none → c4 = 0) := by
  obtain ⟨cs, rfl, hsz⟩ := okWide_struct Try.underlying30 hv
  obtain ⟨l⟩ := cs
  obtain ⟨a0, a1, a2, a3, a4, a5, a6, a7, a8, a9, a10, a11, rfl⟩ := list12 (hsz.trans cellsFilm)
  obtain ⟨fuel, hf⟩ := h
  obtain ⟨xs, n, _, hx, hl, hlen, hfs⟩ := DataW.trod_struct Try.underlying30 hf
  obtain ⟨y0, y1, y2, y3, y4, y5, y6, y7, y8, rfl⟩ := list9 hlen
  have t0 := hfs 0 _ rfl
  have t1 := hfs 1 _ rfl
  have t2 := hfs 2 _ rfl
  have t3 := hfs 3 _ rfl
  have t4 := hfs 4 _ rfl
  have t5 := hfs 5 _ rfl
  have t6 := hfs 6 _ rfl
  have t7 := hfs 7 _ rfl
  have t8 := hfs 8 _ rfl
  clear hfs
  simp only [Prod.mk.injEq] at hx
  obtain ⟨rfl, rfl⟩ := hx
  simp [Value.cells, cellsRect, cellsInt, cellsBytes] at t0 t1 t2 t3 t4 t5 t6 t7 t8
  obtain ⟨u0', u1', u2', u3', m, _, _, u0, u1, u2, u3⟩ := trod_struct4 Try.underlying23 t0
  simp [cellsInt] at u0 u1 u2 u3
  obtain ⟨n0, e0, _, _⟩ := DataW.trod_int Try.underlying3 u0
  obtain ⟨n1, e1, _, _⟩ := DataW.trod_int Try.underlying3 u1
  obtain ⟨n2, e2, _, _⟩ := DataW.trod_int Try.underlying3 u2
  obtain ⟨n3, e3, _, _⟩ := DataW.trod_int Try.underlying3 u3
  obtain ⟨n4, e4, _, _⟩ := DataW.trod_int Try.underlying3 t1
  obtain ⟨n5, e5, _, _⟩ := DataW.trod_int Try.underlying3 t2
  obtain ⟨n6, e6, _, _⟩ := DataW.trod_int Try.underlying3 t3
  obtain ⟨n7, e7, _, _⟩ := DataW.trod_int Try.underlying3 t4
  simp at e0 e1 e2 e3 e4 e5 e6 e7
  subst e0 e1 e2 e3 e4 e5 e6 e7
  obtain ⟨A1, c1, z1, rfl, hr1, hb1, hl1, hn1⟩ := open_bytes t5 (fun k hk => hs k (by
    simp only [DataW.weights, Try.underlying30, DataW.weightsEach, List.map_cons, List.mem_append]
    exact Or.inr (Or.inr (Or.inr (Or.inr (Or.inr (Or.inl hk)))))))
  obtain ⟨A2, c2, z2, rfl, hr2, hb2, hl2, hn2⟩ := open_bytes t6 (fun k hk => hs k (by
    simp only [DataW.weights, Try.underlying30, DataW.weightsEach, List.map_cons, List.mem_append]
    exact Or.inr (Or.inr (Or.inr (Or.inr (Or.inr (Or.inr (Or.inl hk))))))))
  obtain ⟨A3, c3, z3, rfl, hr3, hb3, hl3, hn3⟩ := open_bytes t7 (fun k hk => hs k (by
    simp only [DataW.weights, Try.underlying30, DataW.weightsEach, List.map_cons, List.mem_append]
    exact Or.inr (Or.inr (Or.inr (Or.inr (Or.inr (Or.inr (Or.inr (Or.inl hk)))))))))
  obtain ⟨A4, c4, z4, rfl, hr4, hb4, hl4, hn4⟩ := open_bytes t8 (fun k hk => hs k (by
    simp only [DataW.weights, Try.underlying30, DataW.weightsEach, List.map_cons, List.mem_append]
    exact Or.inr (Or.inr (Or.inr (Or.inr (Or.inr (Or.inr (Or.inr (Or.inr (Or.inl hk))))))))))
  exact ⟨n0, n1, n2, n3, n4, n5, n6, n7, A1, A2, A3, A4, c1, c2, c3, c4, z1, z2, z3, z4, rfl, hr1, hb1, hl1, hn1, hr2, hb2, hl2, hn2, hr3, hb3, hl3, hn3, hr4, hb4, hl4, hn4⟩
end
end Go.Proofs.Ytcomldkihibfjaa
