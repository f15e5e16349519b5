/- Each argument of the laws of this seat, opened: its value written out, its numbers within their kinds. -/
import Derived.Test.YtimdoelgahemdaaRows
import Derived.WalkKit
import Derived.ProofKit
import Derived.OpenShut
import Derived.ChangeOld
import Derived.Below
import Derived.Lib.SmallJoins
namespace Go.Proofs.Ytimdoelgahemdaa
open Go.ChangeShapes Go.WideShapes Go.ChangeAt Go.RowKit Go.Joins

theorem own : ownKnob Try.prog.godebug = none := by kernel_rfl
theorem laidOut : laidOutB Try.prog = true := by kernel_rfl
theorem cells24 : Try.prog.cellsOf 24 = 4 := by kernel_rfl
theorem cells31 : Try.prog.cellsOf 31 = 4 := by kernel_rfl
section
variable {H : Type} {enc : TypeId × Value → H} {w : World} {base b0 : Nat} {spare : Nat → Bool} {held : Bool} {r : Reach} {v : Value} {d : DataW H} {p : List MemPlace}
theorem open_u16 (hv : Value.okWide Try.prog w r b0 22 v) (h : DataW.Trod enc Try.prog w base spare held 22 v d p) : ∃ n, v = .int .u16 n ∧ 0 ≤ n ∧ n ≤ 65535 := by
  obtain ⟨n, rfl, _, _, wn⟩ := open_int Try.underlying22 hv h
  exact ⟨n, rfl, bounds_u16 wn⟩
theorem open_wide (hv : Value.okWide Try.prog w r b0 24 v) (h : DataW.Trod enc Try.prog w base spare held 24 v d p) :
    ∃ n0 n1 n2 n3, v = .agg #[.int .u16 n0, .int .u16 n1, .int .u16 n2, .int .u16 n3] ∧ 0 ≤ n0 ∧ n0 ≤ 65535 ∧ 0 ≤ n1 ∧ n1 ≤ 65535 ∧ 0 ≤ n2 ∧ n2 ≤ 65535 ∧ 0 ≤ n3 ∧ n3 ≤ 65535 := by
  obtain ⟨c0, c1, c2, c3, y0, y1, y2, y3, m, rfl, _, _, t0, t1, t2, t3⟩ := open_agg4 Try.underlying24 (by kernel_rfl) cells24 hv h
  obtain ⟨n0, e0, _, q0⟩ := DataW.trod_int Try.underlying22 t0
  obtain ⟨n1, e1, _, q1⟩ := DataW.trod_int Try.underlying22 t1
  obtain ⟨n2, e2, _, q2⟩ := DataW.trod_int Try.underlying22 t2
  obtain ⟨n3, e3, _, q3⟩ := DataW.trod_int Try.underlying22 t3
  simp at e0 e1 e2 e3
  subst e0 e1 e2 e3
  exact ⟨n0, n1, n2, n3, rfl, (bounds_u16 q0).1, (bounds_u16 q0).2, (bounds_u16 q1).1, (bounds_u16 q1).2, (bounds_u16 q2).1, (bounds_u16 q2).2, (bounds_u16 q3).1, (bounds_u16 q3).2⟩
theorem open_tone (hv : Value.okWide Try.prog w r b0 31 v) (h : DataW.Trod enc Try.prog w base spare held 31 v d p) :
    ∃ n0 n1 n2 n3, v = .agg #[.int .u8 n0, .int .u8 n1, .int .u8 n2, .int .u8 n3] ∧ 0 ≤ n0 ∧ n0 ≤ 255 ∧ 0 ≤ n1 ∧ n1 ≤ 255 ∧ 0 ≤ n2 ∧ n2 ≤ 255 ∧ 0 ≤ n3 ∧ n3 ≤ 255 := by
  obtain ⟨c0, c1, c2, c3, y0, y1, y2, y3, m, rfl, _, _, t0, t1, t2, t3⟩ := open_agg4 Try.underlying31 (by kernel_rfl) cells31 hv h
  obtain ⟨n0, e0, _, q0⟩ := DataW.trod_int Try.underlying5 t0
  obtain ⟨n1, e1, _, q1⟩ := DataW.trod_int Try.underlying5 t1
  obtain ⟨n2, e2, _, q2⟩ := DataW.trod_int Try.underlying5 t2
  obtain ⟨n3, e3, _, q3⟩ := DataW.trod_int Try.underlying5 t3
  simp at e0 e1 e2 e3
  subst e0 e1 e2 e3
  exact ⟨n0, n1, n2, n3, rfl, (bounds_u8 q0).1, (bounds_u8 q0).2, (bounds_u8 q1).1, (bounds_u8 q1).2, (bounds_u8 q2).1, (bounds_u8 q2).2, (bounds_u8 q3).1, (bounds_u8 q3).2⟩
end
end Go.Proofs.Ytimdoelgahemdaa
