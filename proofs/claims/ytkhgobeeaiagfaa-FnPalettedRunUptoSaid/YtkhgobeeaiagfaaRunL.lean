/- Contracts of what the law FnPalettedRun calls besides: steady, Seen, Clone of nil. -/
import Derived.Test.YtkhgobeeaiagfaaComAny
namespace Go.Proofs.Ytkhgobeeaiagfaa
open Go.RowKit
set_option linter.unusedVariables false
set_option linter.unusedSimpArgs false

theorem clone_nil (w : World) : Calls Try.prog 28 #[.slice none 0 0] w fun e w' => e = .returned (.slice none 0 0) ∧ w = w' := by
  have q22 : ∀ (w : World) (a : Option Addr) (n c n' c' : Nat), (binOp .eql 24 (.slice a n c) (.slice none n' c')).run Try.prog w = .ok (.bool a.isNone) w := fun w a n c n' c' => Lib.run_eql_slice_nil w _ _ a n c n' c' Try.underlying24
  go_enter Try.func28, Try.ntmps28
  go_wp2
  go_ret
  exact ⟨rfl, rfl⟩

/-- All rectangles of a script are within reach. -/
def Steady (l : List StepD) : Prop := ∀ p ∈ l, Near4 p.r0 p.r1 p.r2 p.r3

set_option maxRecDepth 100000 in
set_option maxHeartbeats 2000000 in
theorem steady_any (B : Option Addr) (cB : Nat) (l : List StepD) (b0 : Bool) (hb : Hid (b0 = true ↔ Steady l)) (w : World) (hQ : Hid (StepsAt w B l)) (hll : (l.length : Int) ≤ 1759218604391) :
    Calls Try.prog 37 #[.slice B l.length cB] w fun e w' => e = .returned (.bool b0) ∧ Below w.heap.size w w' := by
  go_enter Try.func37, Try.ntmps37
  go_wp2
  go_loopw [7] (fun q wr => ∃ k : Nat, k ≤ l.length ∧ q = .int .i64 k ∧ Hid (∀ i p, i < k → l[i]? = some p → Near4 p.r0 p.r1 p.r2 p.r3) ∧ Hid (Below w.heap.size w wr)) (fun q _ => l.length - (intOf q).toNat)
  case atStart => exact ⟨0, Nat.zero_le _, rfl, show Hid _ from (fun i p hi => absurd hi (Nat.not_lt_zero _)), show Hid _ from Below.refl _ _⟩
  case round =>
    obtain ⟨k, hk, rfl, HN, HB⟩ := hrel
    by_cases hkl : k < l.length
    · have HQ := Lib.hid (hQ.out.below HB.out)
      obtain ⟨p, hp⟩ : ∃ p, l[k]? = some p := ⟨_, List.getElem?_eq_getElem hkl⟩
      obtain ⟨b, o, rfl⟩ := hQ.out.addr (by omega)
      obtain ⟨op, im, x, y, r0, r1, r2, r3, v0, v1, v2, v3, ix⟩ := p
      have q0 : wr.cell? ⟨b, o + k * 13, none⟩ = some (.int .i64 op) := HQ.out.cell hp (j := 0) rfl
      have q1 : wr.cell? ⟨b, o + k * 13 + 1, none⟩ = some (.int .i64 im) := HQ.out.cell hp (j := 1) rfl
      have q2 : wr.cell? ⟨b, o + k * 13 + 2, none⟩ = some (.int .i64 x) := HQ.out.cell hp (j := 2) rfl
      have q3 : wr.cell? ⟨b, o + k * 13 + 3, none⟩ = some (.int .i64 y) := HQ.out.cell hp (j := 3) rfl
      have q4 : wr.cell? ⟨b, o + k * 13 + 4, none⟩ = some (.int .i64 r0) := HQ.out.cell hp (j := 4) rfl
      have q5 : wr.cell? ⟨b, o + k * 13 + 5, none⟩ = some (.int .i64 r1) := HQ.out.cell hp (j := 5) rfl
      have q6 : wr.cell? ⟨b, o + k * 13 + 6, none⟩ = some (.int .i64 r2) := HQ.out.cell hp (j := 6) rfl
      have q7 : wr.cell? ⟨b, o + k * 13 + 7, none⟩ = some (.int .i64 r3) := HQ.out.cell hp (j := 7) rfl
      have q8 : wr.cell? ⟨b, o + k * 13 + 8, none⟩ = some (.int .u16 v0) := HQ.out.cell hp (j := 8) rfl
      have q9 : wr.cell? ⟨b, o + k * 13 + 9, none⟩ = some (.int .u16 v1) := HQ.out.cell hp (j := 9) rfl
      have q10 : wr.cell? ⟨b, o + k * 13 + 10, none⟩ = some (.int .u16 v2) := HQ.out.cell hp (j := 10) rfl
      have q11 : wr.cell? ⟨b, o + k * 13 + 11, none⟩ = some (.int .u16 v3) := HQ.out.cell hp (j := 11) rfl
      have q12 : wr.cell? ⟨b, o + k * 13 + 12, none⟩ = some (.int .u8 ix) := HQ.out.cell hp (j := 12) rfl
      have HP := Lib.hid hp
      clear hp HQ
      by_cases hn : Near4 r0 r1 r2 r3
      · have HNN := Lib.hid hn
        clear hn
        go_wp2_with fail
        refine (box_any r0 r1 r2 r3 _).mono ?_
        rintro e w1 ⟨rfl, hb1⟩
        have hB1 : Below wr.heap.size wr w1 := ((Below.refl _ _).alloc (Nat.le_refl _) _).trans (hb1.mono (by simp))
        clear hb1
        go_wp2_with fail
        refine (near4_any r0 r1 r2 r3 true (by simp [HNN.out]) _).mono ?_
        rintro e w2 ⟨rfl, hb2⟩
        have HB2 := Lib.hid (HB.out.trans ((hB1.trans (hb2.mono hB1.size)).mono HB.out.size))
        clear hb2 hB1
        go_wp2
        go_roundw
        case rel =>
          refine ⟨k + 1, by omega, by go_num, show Hid _ from (fun i p hi hpi => ?_), HB2⟩
          rcases Nat.lt_or_ge i k with h1 | h1
          · exact HN.out i p h1 hpi
          · have : i = k := by omega
            subst this
            have h2 := HP.out
            rw [hpi] at h2
            injection h2 with h2
            rw [h2]
            exact HNN.out
        case measure => simp [intOf]; omega
      · obtain rfl : b0 = false := by
          cases b0 with
          | false => rfl
          | true => exact absurd (hb.out.1 rfl _ (List.mem_of_getElem? HP.out)) hn
        have HNN := Lib.hid hn
        clear hn
        go_wp2_with fail
        refine (box_any r0 r1 r2 r3 _).mono ?_
        rintro e w1 ⟨rfl, hb1⟩
        have hB1 : Below wr.heap.size wr w1 := ((Below.refl _ _).alloc (Nat.le_refl _) _).trans (hb1.mono (by simp))
        clear hb1
        go_wp2_with fail
        refine (near4_any r0 r1 r2 r3 false (by simp [HNN.out]) _).mono ?_
        rintro e w2 ⟨rfl, hb2⟩
        have HB2 := Lib.hid (HB.out.trans ((hB1.trans (hb2.mono hB1.size)).mono HB.out.size))
        clear hb2 hB1
        go_wp2
        go_ret
        exact ⟨rfl, HB2.out⟩
    · obtain rfl : b0 = true := by
        refine hb.out.2 (fun p hp => ?_)
        obtain ⟨i, hi⟩ := List.mem_iff_getElem?.1 hp
        exact HN.out i p (by have := (List.getElem?_eq_some_iff.1 hi).1; omega) hi
      go_wp2
      go_ret
      exact ⟨rfl, HB.out⟩

/-- A view in memory. -/
def viewV (v : ViewD) : List Value := [.int .i64 v.x0, .int .i64 v.y0, .int .i64 v.x1, .int .i64 v.y1, .int .i64 (v.base : Int), .bool v.on]

set_option maxRecDepth 100000 in
set_option maxHeartbeats 2000000 in
theorem seen_off (x0 y0 x1 y1 : Int) (base : Nat) (s a0 b0 a1 b1 : Int) (w : World) (C0 C1 C2 C3 : Int) (cb : Bool) (hC : Hid (ComOf x0 y0 x1 y1 a0 b0 a1 b1 C0 C1 C2 C3 cb)) :
    Calls Try.prog 39 #[.agg #[.int .i64 x0, .int .i64 y0, .int .i64 x1, .int .i64 y1, .int .i64 (base : Int), .bool false], .int .i64 s, .int .i64 1, .agg #[.int .i64 a0, .int .i64 b0, .int .i64 a1, .int .i64 b1]] w fun e w' => e = .returned (.agg #[.int .i64 0, .int .i64 0, .int .i64 0, .int .i64 0, .int .i64 0, .bool false]) ∧ Below w.heap.size w w' := by
  have hB : Below w.heap.size w (((w.alloc (.cells #[.int .i64 x0, .int .i64 y0, .int .i64 x1, .int .i64 y1, .int .i64 (base : Int), .bool false] 58)).alloc (.cells #[.int .i64 a0, .int .i64 b0, .int .i64 a1, .int .i64 b1] 33)).alloc (.cells #[.int .i64 0, .int .i64 0, .int .i64 0, .int .i64 0, .int .i64 0, .bool false] 58)) := (((Below.refl _ _).alloc (Nat.le_refl _) _).alloc (by simp) _).alloc (by simp; omega) _
  have hsz : w.heap.size + 2 < (((w.alloc (.cells #[.int .i64 x0, .int .i64 y0, .int .i64 x1, .int .i64 y1, .int .i64 (base : Int), .bool false] 58)).alloc (.cells #[.int .i64 a0, .int .i64 b0, .int .i64 a1, .int .i64 b1] 33)).alloc (.cells #[.int .i64 0, .int .i64 0, .int .i64 0, .int .i64 0, .int .i64 0, .bool false] 58)).heap.size := by simp
  have V0 : (((w.alloc (.cells #[.int .i64 x0, .int .i64 y0, .int .i64 x1, .int .i64 y1, .int .i64 (base : Int), .bool false] 58)).alloc (.cells #[.int .i64 a0, .int .i64 b0, .int .i64 a1, .int .i64 b1] 33)).alloc (.cells #[.int .i64 0, .int .i64 0, .int .i64 0, .int .i64 0, .int .i64 0, .bool false] 58)).cell? ⟨w.heap.size, 0, none⟩ = some (.int .i64 x0) := by first | (simp; done) | go_simp
  have V1 : (((w.alloc (.cells #[.int .i64 x0, .int .i64 y0, .int .i64 x1, .int .i64 y1, .int .i64 (base : Int), .bool false] 58)).alloc (.cells #[.int .i64 a0, .int .i64 b0, .int .i64 a1, .int .i64 b1] 33)).alloc (.cells #[.int .i64 0, .int .i64 0, .int .i64 0, .int .i64 0, .int .i64 0, .bool false] 58)).cell? ⟨w.heap.size, 1, none⟩ = some (.int .i64 y0) := by first | (simp; done) | go_simp
  have V2 : (((w.alloc (.cells #[.int .i64 x0, .int .i64 y0, .int .i64 x1, .int .i64 y1, .int .i64 (base : Int), .bool false] 58)).alloc (.cells #[.int .i64 a0, .int .i64 b0, .int .i64 a1, .int .i64 b1] 33)).alloc (.cells #[.int .i64 0, .int .i64 0, .int .i64 0, .int .i64 0, .int .i64 0, .bool false] 58)).cell? ⟨w.heap.size, 2, none⟩ = some (.int .i64 x1) := by first | (simp; done) | go_simp
  have V3 : (((w.alloc (.cells #[.int .i64 x0, .int .i64 y0, .int .i64 x1, .int .i64 y1, .int .i64 (base : Int), .bool false] 58)).alloc (.cells #[.int .i64 a0, .int .i64 b0, .int .i64 a1, .int .i64 b1] 33)).alloc (.cells #[.int .i64 0, .int .i64 0, .int .i64 0, .int .i64 0, .int .i64 0, .bool false] 58)).cell? ⟨w.heap.size, 3, none⟩ = some (.int .i64 y1) := by first | (simp; done) | go_simp
  have V4 : (((w.alloc (.cells #[.int .i64 x0, .int .i64 y0, .int .i64 x1, .int .i64 y1, .int .i64 (base : Int), .bool false] 58)).alloc (.cells #[.int .i64 a0, .int .i64 b0, .int .i64 a1, .int .i64 b1] 33)).alloc (.cells #[.int .i64 0, .int .i64 0, .int .i64 0, .int .i64 0, .int .i64 0, .bool false] 58)).cell? ⟨w.heap.size, 4, none⟩ = some (.int .i64 (base : Int)) := by first | (simp; done) | go_simp
  have V5 : (((w.alloc (.cells #[.int .i64 x0, .int .i64 y0, .int .i64 x1, .int .i64 y1, .int .i64 (base : Int), .bool false] 58)).alloc (.cells #[.int .i64 a0, .int .i64 b0, .int .i64 a1, .int .i64 b1] 33)).alloc (.cells #[.int .i64 0, .int .i64 0, .int .i64 0, .int .i64 0, .int .i64 0, .bool false] 58)).cell? ⟨w.heap.size, 5, none⟩ = some (.bool false) := by first | (simp; done) | go_simp
  have R0 : (((w.alloc (.cells #[.int .i64 x0, .int .i64 y0, .int .i64 x1, .int .i64 y1, .int .i64 (base : Int), .bool false] 58)).alloc (.cells #[.int .i64 a0, .int .i64 b0, .int .i64 a1, .int .i64 b1] 33)).alloc (.cells #[.int .i64 0, .int .i64 0, .int .i64 0, .int .i64 0, .int .i64 0, .bool false] 58)).cell? ⟨w.heap.size + 1, 0, none⟩ = some (.int .i64 a0) := by first | (simp; done) | go_simp
  have R1 : (((w.alloc (.cells #[.int .i64 x0, .int .i64 y0, .int .i64 x1, .int .i64 y1, .int .i64 (base : Int), .bool false] 58)).alloc (.cells #[.int .i64 a0, .int .i64 b0, .int .i64 a1, .int .i64 b1] 33)).alloc (.cells #[.int .i64 0, .int .i64 0, .int .i64 0, .int .i64 0, .int .i64 0, .bool false] 58)).cell? ⟨w.heap.size + 1, 1, none⟩ = some (.int .i64 b0) := by first | (simp; done) | go_simp
  have R2 : (((w.alloc (.cells #[.int .i64 x0, .int .i64 y0, .int .i64 x1, .int .i64 y1, .int .i64 (base : Int), .bool false] 58)).alloc (.cells #[.int .i64 a0, .int .i64 b0, .int .i64 a1, .int .i64 b1] 33)).alloc (.cells #[.int .i64 0, .int .i64 0, .int .i64 0, .int .i64 0, .int .i64 0, .bool false] 58)).cell? ⟨w.heap.size + 1, 2, none⟩ = some (.int .i64 a1) := by first | (simp; done) | go_simp
  have R3 : (((w.alloc (.cells #[.int .i64 x0, .int .i64 y0, .int .i64 x1, .int .i64 y1, .int .i64 (base : Int), .bool false] 58)).alloc (.cells #[.int .i64 a0, .int .i64 b0, .int .i64 a1, .int .i64 b1] 33)).alloc (.cells #[.int .i64 0, .int .i64 0, .int .i64 0, .int .i64 0, .int .i64 0, .bool false] 58)).cell? ⟨w.heap.size + 1, 3, none⟩ = some (.int .i64 b1) := by first | (simp; done) | go_simp
  have Z0 : (((w.alloc (.cells #[.int .i64 x0, .int .i64 y0, .int .i64 x1, .int .i64 y1, .int .i64 (base : Int), .bool false] 58)).alloc (.cells #[.int .i64 a0, .int .i64 b0, .int .i64 a1, .int .i64 b1] 33)).alloc (.cells #[.int .i64 0, .int .i64 0, .int .i64 0, .int .i64 0, .int .i64 0, .bool false] 58)).cell? ⟨w.heap.size + 1 + 1, 0, none⟩ = some (.int .i64 0) := by first | (simp; done) | go_simp
  have Z1 : (((w.alloc (.cells #[.int .i64 x0, .int .i64 y0, .int .i64 x1, .int .i64 y1, .int .i64 (base : Int), .bool false] 58)).alloc (.cells #[.int .i64 a0, .int .i64 b0, .int .i64 a1, .int .i64 b1] 33)).alloc (.cells #[.int .i64 0, .int .i64 0, .int .i64 0, .int .i64 0, .int .i64 0, .bool false] 58)).cell? ⟨w.heap.size + 1 + 1, 1, none⟩ = some (.int .i64 0) := by first | (simp; done) | go_simp
  have Z2 : (((w.alloc (.cells #[.int .i64 x0, .int .i64 y0, .int .i64 x1, .int .i64 y1, .int .i64 (base : Int), .bool false] 58)).alloc (.cells #[.int .i64 a0, .int .i64 b0, .int .i64 a1, .int .i64 b1] 33)).alloc (.cells #[.int .i64 0, .int .i64 0, .int .i64 0, .int .i64 0, .int .i64 0, .bool false] 58)).cell? ⟨w.heap.size + 1 + 1, 2, none⟩ = some (.int .i64 0) := by first | (simp; done) | go_simp
  have Z3 : (((w.alloc (.cells #[.int .i64 x0, .int .i64 y0, .int .i64 x1, .int .i64 y1, .int .i64 (base : Int), .bool false] 58)).alloc (.cells #[.int .i64 a0, .int .i64 b0, .int .i64 a1, .int .i64 b1] 33)).alloc (.cells #[.int .i64 0, .int .i64 0, .int .i64 0, .int .i64 0, .int .i64 0, .bool false] 58)).cell? ⟨w.heap.size + 1 + 1, 3, none⟩ = some (.int .i64 0) := by first | (simp; done) | go_simp
  have Z4 : (((w.alloc (.cells #[.int .i64 x0, .int .i64 y0, .int .i64 x1, .int .i64 y1, .int .i64 (base : Int), .bool false] 58)).alloc (.cells #[.int .i64 a0, .int .i64 b0, .int .i64 a1, .int .i64 b1] 33)).alloc (.cells #[.int .i64 0, .int .i64 0, .int .i64 0, .int .i64 0, .int .i64 0, .bool false] 58)).cell? ⟨w.heap.size + 1 + 1, 4, none⟩ = some (.int .i64 0) := by first | (simp; done) | go_simp
  have Z5 : (((w.alloc (.cells #[.int .i64 x0, .int .i64 y0, .int .i64 x1, .int .i64 y1, .int .i64 (base : Int), .bool false] 58)).alloc (.cells #[.int .i64 a0, .int .i64 b0, .int .i64 a1, .int .i64 b1] 33)).alloc (.cells #[.int .i64 0, .int .i64 0, .int .i64 0, .int .i64 0, .int .i64 0, .bool false] 58)).cell? ⟨w.heap.size + 1 + 1, 5, none⟩ = some (.bool false) := by first | (simp; done) | go_simp
  have F0 : (((w.alloc (.cells #[.int .i64 x0, .int .i64 y0, .int .i64 x1, .int .i64 y1, .int .i64 (base : Int), .bool false] 58)).alloc (.cells #[.int .i64 a0, .int .i64 b0, .int .i64 a1, .int .i64 b1] 33)).alloc (.cells #[.int .i64 0, .int .i64 0, .int .i64 0, .int .i64 0, .int .i64 0, .bool false] 58)).frozen? ⟨w.heap.size + 1 + 1, 0, none⟩ = false := by first | (simp; done) | go_simp
  have F1 : (((w.alloc (.cells #[.int .i64 x0, .int .i64 y0, .int .i64 x1, .int .i64 y1, .int .i64 (base : Int), .bool false] 58)).alloc (.cells #[.int .i64 a0, .int .i64 b0, .int .i64 a1, .int .i64 b1] 33)).alloc (.cells #[.int .i64 0, .int .i64 0, .int .i64 0, .int .i64 0, .int .i64 0, .bool false] 58)).frozen? ⟨w.heap.size + 1 + 1, 1, none⟩ = false := by first | (simp; done) | go_simp
  have F2 : (((w.alloc (.cells #[.int .i64 x0, .int .i64 y0, .int .i64 x1, .int .i64 y1, .int .i64 (base : Int), .bool false] 58)).alloc (.cells #[.int .i64 a0, .int .i64 b0, .int .i64 a1, .int .i64 b1] 33)).alloc (.cells #[.int .i64 0, .int .i64 0, .int .i64 0, .int .i64 0, .int .i64 0, .bool false] 58)).frozen? ⟨w.heap.size + 1 + 1, 2, none⟩ = false := by first | (simp; done) | go_simp
  have F3 : (((w.alloc (.cells #[.int .i64 x0, .int .i64 y0, .int .i64 x1, .int .i64 y1, .int .i64 (base : Int), .bool false] 58)).alloc (.cells #[.int .i64 a0, .int .i64 b0, .int .i64 a1, .int .i64 b1] 33)).alloc (.cells #[.int .i64 0, .int .i64 0, .int .i64 0, .int .i64 0, .int .i64 0, .bool false] 58)).frozen? ⟨w.heap.size + 1 + 1, 3, none⟩ = false := by first | (simp; done) | go_simp
  have F4 : (((w.alloc (.cells #[.int .i64 x0, .int .i64 y0, .int .i64 x1, .int .i64 y1, .int .i64 (base : Int), .bool false] 58)).alloc (.cells #[.int .i64 a0, .int .i64 b0, .int .i64 a1, .int .i64 b1] 33)).alloc (.cells #[.int .i64 0, .int .i64 0, .int .i64 0, .int .i64 0, .int .i64 0, .bool false] 58)).frozen? ⟨w.heap.size + 1 + 1, 4, none⟩ = false := by first | (simp; done) | go_simp
  have F5 : (((w.alloc (.cells #[.int .i64 x0, .int .i64 y0, .int .i64 x1, .int .i64 y1, .int .i64 (base : Int), .bool false] 58)).alloc (.cells #[.int .i64 a0, .int .i64 b0, .int .i64 a1, .int .i64 b1] 33)).alloc (.cells #[.int .i64 0, .int .i64 0, .int .i64 0, .int .i64 0, .int .i64 0, .bool false] 58)).frozen? ⟨w.heap.size + 1 + 1, 5, none⟩ = false := by first | (simp; done) | go_simp
  go_enter Try.func39, Try.ntmps39
  go_wp2_with fail
  generalize ((w.alloc (.cells #[.int .i64 x0, .int .i64 y0, .int .i64 x1, .int .i64 y1, .int .i64 (base : Int), .bool false] 58)).alloc (.cells #[.int .i64 a0, .int .i64 b0, .int .i64 a1, .int .i64 b1] 33)).alloc (.cells #[.int .i64 0, .int .i64 0, .int .i64 0, .int .i64 0, .int .i64 0, .bool false] 58) = W0 at *
  refine (common_any x0 y0 x1 y1 a0 b0 a1 b1 C0 C1 C2 C3 cb hC.out _).mono ?_
  rintro e w1 ⟨rfl, hb1⟩
  replace F0 := frozenK Z0 F0 hb1
  replace F1 := frozenK Z1 F1 hb1
  replace F2 := frozenK Z2 F2 hb1
  replace F3 := frozenK Z3 F3 hb1
  replace F4 := frozenK Z4 F4 hb1
  replace F5 := frozenK Z5 F5 hb1
  replace hsz := Nat.lt_of_lt_of_le hsz hb1.size
  replace V0 := cell_kept V0 hb1
  replace V1 := cell_kept V1 hb1
  replace V2 := cell_kept V2 hb1
  replace V3 := cell_kept V3 hb1
  replace V4 := cell_kept V4 hb1
  replace V5 := cell_kept V5 hb1
  replace R0 := cell_kept R0 hb1
  replace R1 := cell_kept R1 hb1
  replace R2 := cell_kept R2 hb1
  replace R3 := cell_kept R3 hb1
  replace Z0 := cell_kept Z0 hb1
  replace Z1 := cell_kept Z1 hb1
  replace Z2 := cell_kept Z2 hb1
  replace Z3 := cell_kept Z3 hb1
  replace Z4 := cell_kept Z4 hb1
  replace Z5 := cell_kept Z5 hb1
  replace hB := hB.trans (hb1.mono hB.size)
  clear hb1
  have hz1 : w.heap.size < w1.heap.size := by omega
  have hz2 : ¬ w.heap.size = w1.heap.size := by omega
  have hz3 : ¬ w1.heap.size = w.heap.size := by omega
  have hz4 : w.heap.size + 1 + 1 < w1.heap.size := by omega
  have hz5 : ¬ w.heap.size + 1 + 1 = w1.heap.size := by omega
  have hz6 : ¬ w1.heap.size = w.heap.size + 1 + 1 := by omega
  go_wp2
  refine bodyPost_ret (v := .agg #[.int .i64 0, .int .i64 0, .int .i64 0, .int .i64 0, .int .i64 0, .bool false]) (by simp [results, Try.results39, go_sem, Z0, Z1, Z2, Z3, Z4, Z5, hz4, hz5, hz6]) rfl ⟨rfl, ?_⟩
  exact ((((((hB.setCell (Nat.le_add_right w.heap.size 2) _).setCell (Nat.le_add_right w.heap.size 2) _).setCell (Nat.le_add_right w.heap.size 2) _).setCell (Nat.le_add_right w.heap.size 2) _).setCell (Nat.le_add_right w.heap.size 2) _).setCell (Nat.le_add_right w.heap.size 2) _).alloc (by simp [World.setCell]; exact hB.size) _

set_option maxRecDepth 100000 in
set_option maxHeartbeats 2000000 in
theorem seen_none (x0 y0 x1 y1 : Int) (base : Nat) (s a0 b0 a1 b1 : Int) (w : World) (hE : Hid (min x1 a1 ≤ max x0 a0 ∨ min y1 b1 ≤ max y0 b0)) :
    Calls Try.prog 39 #[.agg #[.int .i64 x0, .int .i64 y0, .int .i64 x1, .int .i64 y1, .int .i64 (base : Int), .bool true], .int .i64 s, .int .i64 1, .agg #[.int .i64 a0, .int .i64 b0, .int .i64 a1, .int .i64 b1]] w fun e w' => e = .returned (.agg #[.int .i64 0, .int .i64 0, .int .i64 0, .int .i64 0, .int .i64 0, .bool false]) ∧ Below w.heap.size w w' := by
  have hB : Below w.heap.size w (((w.alloc (.cells #[.int .i64 x0, .int .i64 y0, .int .i64 x1, .int .i64 y1, .int .i64 (base : Int), .bool true] 58)).alloc (.cells #[.int .i64 a0, .int .i64 b0, .int .i64 a1, .int .i64 b1] 33)).alloc (.cells #[.int .i64 0, .int .i64 0, .int .i64 0, .int .i64 0, .int .i64 0, .bool false] 58)) := (((Below.refl _ _).alloc (Nat.le_refl _) _).alloc (by simp) _).alloc (by simp; omega) _
  have hsz : w.heap.size + 2 < (((w.alloc (.cells #[.int .i64 x0, .int .i64 y0, .int .i64 x1, .int .i64 y1, .int .i64 (base : Int), .bool true] 58)).alloc (.cells #[.int .i64 a0, .int .i64 b0, .int .i64 a1, .int .i64 b1] 33)).alloc (.cells #[.int .i64 0, .int .i64 0, .int .i64 0, .int .i64 0, .int .i64 0, .bool false] 58)).heap.size := by simp
  have V0 : (((w.alloc (.cells #[.int .i64 x0, .int .i64 y0, .int .i64 x1, .int .i64 y1, .int .i64 (base : Int), .bool true] 58)).alloc (.cells #[.int .i64 a0, .int .i64 b0, .int .i64 a1, .int .i64 b1] 33)).alloc (.cells #[.int .i64 0, .int .i64 0, .int .i64 0, .int .i64 0, .int .i64 0, .bool false] 58)).cell? ⟨w.heap.size, 0, none⟩ = some (.int .i64 x0) := by first | (simp; done) | go_simp
  have V1 : (((w.alloc (.cells #[.int .i64 x0, .int .i64 y0, .int .i64 x1, .int .i64 y1, .int .i64 (base : Int), .bool true] 58)).alloc (.cells #[.int .i64 a0, .int .i64 b0, .int .i64 a1, .int .i64 b1] 33)).alloc (.cells #[.int .i64 0, .int .i64 0, .int .i64 0, .int .i64 0, .int .i64 0, .bool false] 58)).cell? ⟨w.heap.size, 1, none⟩ = some (.int .i64 y0) := by first | (simp; done) | go_simp
  have V2 : (((w.alloc (.cells #[.int .i64 x0, .int .i64 y0, .int .i64 x1, .int .i64 y1, .int .i64 (base : Int), .bool true] 58)).alloc (.cells #[.int .i64 a0, .int .i64 b0, .int .i64 a1, .int .i64 b1] 33)).alloc (.cells #[.int .i64 0, .int .i64 0, .int .i64 0, .int .i64 0, .int .i64 0, .bool false] 58)).cell? ⟨w.heap.size, 2, none⟩ = some (.int .i64 x1) := by first | (simp; done) | go_simp
  have V3 : (((w.alloc (.cells #[.int .i64 x0, .int .i64 y0, .int .i64 x1, .int .i64 y1, .int .i64 (base : Int), .bool true] 58)).alloc (.cells #[.int .i64 a0, .int .i64 b0, .int .i64 a1, .int .i64 b1] 33)).alloc (.cells #[.int .i64 0, .int .i64 0, .int .i64 0, .int .i64 0, .int .i64 0, .bool false] 58)).cell? ⟨w.heap.size, 3, none⟩ = some (.int .i64 y1) := by first | (simp; done) | go_simp
  have V4 : (((w.alloc (.cells #[.int .i64 x0, .int .i64 y0, .int .i64 x1, .int .i64 y1, .int .i64 (base : Int), .bool true] 58)).alloc (.cells #[.int .i64 a0, .int .i64 b0, .int .i64 a1, .int .i64 b1] 33)).alloc (.cells #[.int .i64 0, .int .i64 0, .int .i64 0, .int .i64 0, .int .i64 0, .bool false] 58)).cell? ⟨w.heap.size, 4, none⟩ = some (.int .i64 (base : Int)) := by first | (simp; done) | go_simp
  have V5 : (((w.alloc (.cells #[.int .i64 x0, .int .i64 y0, .int .i64 x1, .int .i64 y1, .int .i64 (base : Int), .bool true] 58)).alloc (.cells #[.int .i64 a0, .int .i64 b0, .int .i64 a1, .int .i64 b1] 33)).alloc (.cells #[.int .i64 0, .int .i64 0, .int .i64 0, .int .i64 0, .int .i64 0, .bool false] 58)).cell? ⟨w.heap.size, 5, none⟩ = some (.bool true) := by first | (simp; done) | go_simp
  have R0 : (((w.alloc (.cells #[.int .i64 x0, .int .i64 y0, .int .i64 x1, .int .i64 y1, .int .i64 (base : Int), .bool true] 58)).alloc (.cells #[.int .i64 a0, .int .i64 b0, .int .i64 a1, .int .i64 b1] 33)).alloc (.cells #[.int .i64 0, .int .i64 0, .int .i64 0, .int .i64 0, .int .i64 0, .bool false] 58)).cell? ⟨w.heap.size + 1, 0, none⟩ = some (.int .i64 a0) := by first | (simp; done) | go_simp
  have R1 : (((w.alloc (.cells #[.int .i64 x0, .int .i64 y0, .int .i64 x1, .int .i64 y1, .int .i64 (base : Int), .bool true] 58)).alloc (.cells #[.int .i64 a0, .int .i64 b0, .int .i64 a1, .int .i64 b1] 33)).alloc (.cells #[.int .i64 0, .int .i64 0, .int .i64 0, .int .i64 0, .int .i64 0, .bool false] 58)).cell? ⟨w.heap.size + 1, 1, none⟩ = some (.int .i64 b0) := by first | (simp; done) | go_simp
  have R2 : (((w.alloc (.cells #[.int .i64 x0, .int .i64 y0, .int .i64 x1, .int .i64 y1, .int .i64 (base : Int), .bool true] 58)).alloc (.cells #[.int .i64 a0, .int .i64 b0, .int .i64 a1, .int .i64 b1] 33)).alloc (.cells #[.int .i64 0, .int .i64 0, .int .i64 0, .int .i64 0, .int .i64 0, .bool false] 58)).cell? ⟨w.heap.size + 1, 2, none⟩ = some (.int .i64 a1) := by first | (simp; done) | go_simp
  have R3 : (((w.alloc (.cells #[.int .i64 x0, .int .i64 y0, .int .i64 x1, .int .i64 y1, .int .i64 (base : Int), .bool true] 58)).alloc (.cells #[.int .i64 a0, .int .i64 b0, .int .i64 a1, .int .i64 b1] 33)).alloc (.cells #[.int .i64 0, .int .i64 0, .int .i64 0, .int .i64 0, .int .i64 0, .bool false] 58)).cell? ⟨w.heap.size + 1, 3, none⟩ = some (.int .i64 b1) := by first | (simp; done) | go_simp
  have Z0 : (((w.alloc (.cells #[.int .i64 x0, .int .i64 y0, .int .i64 x1, .int .i64 y1, .int .i64 (base : Int), .bool true] 58)).alloc (.cells #[.int .i64 a0, .int .i64 b0, .int .i64 a1, .int .i64 b1] 33)).alloc (.cells #[.int .i64 0, .int .i64 0, .int .i64 0, .int .i64 0, .int .i64 0, .bool false] 58)).cell? ⟨w.heap.size + 1 + 1, 0, none⟩ = some (.int .i64 0) := by first | (simp; done) | go_simp
  have Z1 : (((w.alloc (.cells #[.int .i64 x0, .int .i64 y0, .int .i64 x1, .int .i64 y1, .int .i64 (base : Int), .bool true] 58)).alloc (.cells #[.int .i64 a0, .int .i64 b0, .int .i64 a1, .int .i64 b1] 33)).alloc (.cells #[.int .i64 0, .int .i64 0, .int .i64 0, .int .i64 0, .int .i64 0, .bool false] 58)).cell? ⟨w.heap.size + 1 + 1, 1, none⟩ = some (.int .i64 0) := by first | (simp; done) | go_simp
  have Z2 : (((w.alloc (.cells #[.int .i64 x0, .int .i64 y0, .int .i64 x1, .int .i64 y1, .int .i64 (base : Int), .bool true] 58)).alloc (.cells #[.int .i64 a0, .int .i64 b0, .int .i64 a1, .int .i64 b1] 33)).alloc (.cells #[.int .i64 0, .int .i64 0, .int .i64 0, .int .i64 0, .int .i64 0, .bool false] 58)).cell? ⟨w.heap.size + 1 + 1, 2, none⟩ = some (.int .i64 0) := by first | (simp; done) | go_simp
  have Z3 : (((w.alloc (.cells #[.int .i64 x0, .int .i64 y0, .int .i64 x1, .int .i64 y1, .int .i64 (base : Int), .bool true] 58)).alloc (.cells #[.int .i64 a0, .int .i64 b0, .int .i64 a1, .int .i64 b1] 33)).alloc (.cells #[.int .i64 0, .int .i64 0, .int .i64 0, .int .i64 0, .int .i64 0, .bool false] 58)).cell? ⟨w.heap.size + 1 + 1, 3, none⟩ = some (.int .i64 0) := by first | (simp; done) | go_simp
  have Z4 : (((w.alloc (.cells #[.int .i64 x0, .int .i64 y0, .int .i64 x1, .int .i64 y1, .int .i64 (base : Int), .bool true] 58)).alloc (.cells #[.int .i64 a0, .int .i64 b0, .int .i64 a1, .int .i64 b1] 33)).alloc (.cells #[.int .i64 0, .int .i64 0, .int .i64 0, .int .i64 0, .int .i64 0, .bool false] 58)).cell? ⟨w.heap.size + 1 + 1, 4, none⟩ = some (.int .i64 0) := by first | (simp; done) | go_simp
  have Z5 : (((w.alloc (.cells #[.int .i64 x0, .int .i64 y0, .int .i64 x1, .int .i64 y1, .int .i64 (base : Int), .bool true] 58)).alloc (.cells #[.int .i64 a0, .int .i64 b0, .int .i64 a1, .int .i64 b1] 33)).alloc (.cells #[.int .i64 0, .int .i64 0, .int .i64 0, .int .i64 0, .int .i64 0, .bool false] 58)).cell? ⟨w.heap.size + 1 + 1, 5, none⟩ = some (.bool false) := by first | (simp; done) | go_simp
  have F0 : (((w.alloc (.cells #[.int .i64 x0, .int .i64 y0, .int .i64 x1, .int .i64 y1, .int .i64 (base : Int), .bool true] 58)).alloc (.cells #[.int .i64 a0, .int .i64 b0, .int .i64 a1, .int .i64 b1] 33)).alloc (.cells #[.int .i64 0, .int .i64 0, .int .i64 0, .int .i64 0, .int .i64 0, .bool false] 58)).frozen? ⟨w.heap.size + 1 + 1, 0, none⟩ = false := by first | (simp; done) | go_simp
  have F1 : (((w.alloc (.cells #[.int .i64 x0, .int .i64 y0, .int .i64 x1, .int .i64 y1, .int .i64 (base : Int), .bool true] 58)).alloc (.cells #[.int .i64 a0, .int .i64 b0, .int .i64 a1, .int .i64 b1] 33)).alloc (.cells #[.int .i64 0, .int .i64 0, .int .i64 0, .int .i64 0, .int .i64 0, .bool false] 58)).frozen? ⟨w.heap.size + 1 + 1, 1, none⟩ = false := by first | (simp; done) | go_simp
  have F2 : (((w.alloc (.cells #[.int .i64 x0, .int .i64 y0, .int .i64 x1, .int .i64 y1, .int .i64 (base : Int), .bool true] 58)).alloc (.cells #[.int .i64 a0, .int .i64 b0, .int .i64 a1, .int .i64 b1] 33)).alloc (.cells #[.int .i64 0, .int .i64 0, .int .i64 0, .int .i64 0, .int .i64 0, .bool false] 58)).frozen? ⟨w.heap.size + 1 + 1, 2, none⟩ = false := by first | (simp; done) | go_simp
  have F3 : (((w.alloc (.cells #[.int .i64 x0, .int .i64 y0, .int .i64 x1, .int .i64 y1, .int .i64 (base : Int), .bool true] 58)).alloc (.cells #[.int .i64 a0, .int .i64 b0, .int .i64 a1, .int .i64 b1] 33)).alloc (.cells #[.int .i64 0, .int .i64 0, .int .i64 0, .int .i64 0, .int .i64 0, .bool false] 58)).frozen? ⟨w.heap.size + 1 + 1, 3, none⟩ = false := by first | (simp; done) | go_simp
  have F4 : (((w.alloc (.cells #[.int .i64 x0, .int .i64 y0, .int .i64 x1, .int .i64 y1, .int .i64 (base : Int), .bool true] 58)).alloc (.cells #[.int .i64 a0, .int .i64 b0, .int .i64 a1, .int .i64 b1] 33)).alloc (.cells #[.int .i64 0, .int .i64 0, .int .i64 0, .int .i64 0, .int .i64 0, .bool false] 58)).frozen? ⟨w.heap.size + 1 + 1, 4, none⟩ = false := by first | (simp; done) | go_simp
  have F5 : (((w.alloc (.cells #[.int .i64 x0, .int .i64 y0, .int .i64 x1, .int .i64 y1, .int .i64 (base : Int), .bool true] 58)).alloc (.cells #[.int .i64 a0, .int .i64 b0, .int .i64 a1, .int .i64 b1] 33)).alloc (.cells #[.int .i64 0, .int .i64 0, .int .i64 0, .int .i64 0, .int .i64 0, .bool false] 58)).frozen? ⟨w.heap.size + 1 + 1, 5, none⟩ = false := by first | (simp; done) | go_simp
  go_enter Try.func39, Try.ntmps39
  go_wp2_with fail
  generalize ((w.alloc (.cells #[.int .i64 x0, .int .i64 y0, .int .i64 x1, .int .i64 y1, .int .i64 (base : Int), .bool true] 58)).alloc (.cells #[.int .i64 a0, .int .i64 b0, .int .i64 a1, .int .i64 b1] 33)).alloc (.cells #[.int .i64 0, .int .i64 0, .int .i64 0, .int .i64 0, .int .i64 0, .bool false] 58) = W0 at *
  refine (common_none x0 y0 x1 y1 a0 b0 a1 b1 _ hE.out).mono ?_
  rintro e w1 ⟨rfl, hb1⟩
  replace F0 := frozenK Z0 F0 hb1
  replace F1 := frozenK Z1 F1 hb1
  replace F2 := frozenK Z2 F2 hb1
  replace F3 := frozenK Z3 F3 hb1
  replace F4 := frozenK Z4 F4 hb1
  replace F5 := frozenK Z5 F5 hb1
  replace hsz := Nat.lt_of_lt_of_le hsz hb1.size
  replace V0 := cell_kept V0 hb1
  replace V1 := cell_kept V1 hb1
  replace V2 := cell_kept V2 hb1
  replace V3 := cell_kept V3 hb1
  replace V4 := cell_kept V4 hb1
  replace V5 := cell_kept V5 hb1
  replace R0 := cell_kept R0 hb1
  replace R1 := cell_kept R1 hb1
  replace R2 := cell_kept R2 hb1
  replace R3 := cell_kept R3 hb1
  replace Z0 := cell_kept Z0 hb1
  replace Z1 := cell_kept Z1 hb1
  replace Z2 := cell_kept Z2 hb1
  replace Z3 := cell_kept Z3 hb1
  replace Z4 := cell_kept Z4 hb1
  replace Z5 := cell_kept Z5 hb1
  replace hB := hB.trans (hb1.mono hB.size)
  clear hb1
  have hz1 : w.heap.size < w1.heap.size := by omega
  have hz2 : ¬ w.heap.size = w1.heap.size := by omega
  have hz3 : ¬ w1.heap.size = w.heap.size := by omega
  have hz4 : w.heap.size + 1 + 1 < w1.heap.size := by omega
  have hz5 : ¬ w.heap.size + 1 + 1 = w1.heap.size := by omega
  have hz6 : ¬ w1.heap.size = w.heap.size + 1 + 1 := by omega
  go_wp2
  refine bodyPost_ret (v := .agg #[.int .i64 0, .int .i64 0, .int .i64 0, .int .i64 0, .int .i64 0, .bool false]) (by simp [results, Try.results39, go_sem, Z0, Z1, Z2, Z3, Z4, Z5, hz4, hz5, hz6]) rfl ⟨rfl, ?_⟩
  exact ((((((hB.setCell (Nat.le_add_right w.heap.size 2) _).setCell (Nat.le_add_right w.heap.size 2) _).setCell (Nat.le_add_right w.heap.size 2) _).setCell (Nat.le_add_right w.heap.size 2) _).setCell (Nat.le_add_right w.heap.size 2) _).setCell (Nat.le_add_right w.heap.size 2) _).alloc (by simp [World.setCell]; exact hB.size) _

set_option maxRecDepth 100000 in
set_option maxHeartbeats 2000000 in
theorem seen_some (x0 y0 x1 y1 : Int) (base : Nat) (s a0 b0 a1 b1 : Int) (w : World) (c0 d0 c1 d1 : Int) (k : Nat) (m1 : Hid (max x0 a0 = c0)) (m2 : Hid (max y0 b0 = d0)) (m3 : Hid (min x1 a1 = c1)) (m4 : Hid (min y1 b1 = d1)) (n5 : Hid (max x0 a0 < min x1 a1)) (n6 : Hid (max y0 b0 < min y1 b1)) (n1 : x0 < x1) (n2 : y0 < y1) (n3 : a0 < a1) (n4 : b0 < b1) (HK : Hid ((d0 - y0) * s + (c0 - x0) * 1 = k)) (hbk : (base : Int) + k ≤ 140737488351232) (q1 : -4398046511104 ≤ d0 - y0) (q2 : d0 - y0 ≤ 4398046511104) (q3 : -4398046511104 ≤ c0 - x0) (q4 : c0 - x0 ≤ 4398046511104) (p1 : -2305843009213693952 ≤ (d0 - y0) * s) (p2 : (d0 - y0) * s ≤ 2305843009213693952) :
    Calls Try.prog 39 #[.agg #[.int .i64 x0, .int .i64 y0, .int .i64 x1, .int .i64 y1, .int .i64 (base : Int), .bool true], .int .i64 s, .int .i64 1, .agg #[.int .i64 a0, .int .i64 b0, .int .i64 a1, .int .i64 b1]] w fun e w' => e = .returned (.agg #[.int .i64 c0, .int .i64 d0, .int .i64 c1, .int .i64 d1, .int .i64 ((base + k : Nat) : Int), .bool true]) ∧ Below w.heap.size w w' := by
  have hB : Below w.heap.size w (((w.alloc (.cells #[.int .i64 x0, .int .i64 y0, .int .i64 x1, .int .i64 y1, .int .i64 (base : Int), .bool true] 58)).alloc (.cells #[.int .i64 a0, .int .i64 b0, .int .i64 a1, .int .i64 b1] 33)).alloc (.cells #[.int .i64 0, .int .i64 0, .int .i64 0, .int .i64 0, .int .i64 0, .bool false] 58)) := (((Below.refl _ _).alloc (Nat.le_refl _) _).alloc (by simp) _).alloc (by simp; omega) _
  have hsz : w.heap.size + 2 < (((w.alloc (.cells #[.int .i64 x0, .int .i64 y0, .int .i64 x1, .int .i64 y1, .int .i64 (base : Int), .bool true] 58)).alloc (.cells #[.int .i64 a0, .int .i64 b0, .int .i64 a1, .int .i64 b1] 33)).alloc (.cells #[.int .i64 0, .int .i64 0, .int .i64 0, .int .i64 0, .int .i64 0, .bool false] 58)).heap.size := by simp
  have V0 : (((w.alloc (.cells #[.int .i64 x0, .int .i64 y0, .int .i64 x1, .int .i64 y1, .int .i64 (base : Int), .bool true] 58)).alloc (.cells #[.int .i64 a0, .int .i64 b0, .int .i64 a1, .int .i64 b1] 33)).alloc (.cells #[.int .i64 0, .int .i64 0, .int .i64 0, .int .i64 0, .int .i64 0, .bool false] 58)).cell? ⟨w.heap.size, 0, none⟩ = some (.int .i64 x0) := by first | (simp; done) | go_simp
  have V1 : (((w.alloc (.cells #[.int .i64 x0, .int .i64 y0, .int .i64 x1, .int .i64 y1, .int .i64 (base : Int), .bool true] 58)).alloc (.cells #[.int .i64 a0, .int .i64 b0, .int .i64 a1, .int .i64 b1] 33)).alloc (.cells #[.int .i64 0, .int .i64 0, .int .i64 0, .int .i64 0, .int .i64 0, .bool false] 58)).cell? ⟨w.heap.size, 1, none⟩ = some (.int .i64 y0) := by first | (simp; done) | go_simp
  have V2 : (((w.alloc (.cells #[.int .i64 x0, .int .i64 y0, .int .i64 x1, .int .i64 y1, .int .i64 (base : Int), .bool true] 58)).alloc (.cells #[.int .i64 a0, .int .i64 b0, .int .i64 a1, .int .i64 b1] 33)).alloc (.cells #[.int .i64 0, .int .i64 0, .int .i64 0, .int .i64 0, .int .i64 0, .bool false] 58)).cell? ⟨w.heap.size, 2, none⟩ = some (.int .i64 x1) := by first | (simp; done) | go_simp
  have V3 : (((w.alloc (.cells #[.int .i64 x0, .int .i64 y0, .int .i64 x1, .int .i64 y1, .int .i64 (base : Int), .bool true] 58)).alloc (.cells #[.int .i64 a0, .int .i64 b0, .int .i64 a1, .int .i64 b1] 33)).alloc (.cells #[.int .i64 0, .int .i64 0, .int .i64 0, .int .i64 0, .int .i64 0, .bool false] 58)).cell? ⟨w.heap.size, 3, none⟩ = some (.int .i64 y1) := by first | (simp; done) | go_simp
  have V4 : (((w.alloc (.cells #[.int .i64 x0, .int .i64 y0, .int .i64 x1, .int .i64 y1, .int .i64 (base : Int), .bool true] 58)).alloc (.cells #[.int .i64 a0, .int .i64 b0, .int .i64 a1, .int .i64 b1] 33)).alloc (.cells #[.int .i64 0, .int .i64 0, .int .i64 0, .int .i64 0, .int .i64 0, .bool false] 58)).cell? ⟨w.heap.size, 4, none⟩ = some (.int .i64 (base : Int)) := by first | (simp; done) | go_simp
  have V5 : (((w.alloc (.cells #[.int .i64 x0, .int .i64 y0, .int .i64 x1, .int .i64 y1, .int .i64 (base : Int), .bool true] 58)).alloc (.cells #[.int .i64 a0, .int .i64 b0, .int .i64 a1, .int .i64 b1] 33)).alloc (.cells #[.int .i64 0, .int .i64 0, .int .i64 0, .int .i64 0, .int .i64 0, .bool false] 58)).cell? ⟨w.heap.size, 5, none⟩ = some (.bool true) := by first | (simp; done) | go_simp
  have R0 : (((w.alloc (.cells #[.int .i64 x0, .int .i64 y0, .int .i64 x1, .int .i64 y1, .int .i64 (base : Int), .bool true] 58)).alloc (.cells #[.int .i64 a0, .int .i64 b0, .int .i64 a1, .int .i64 b1] 33)).alloc (.cells #[.int .i64 0, .int .i64 0, .int .i64 0, .int .i64 0, .int .i64 0, .bool false] 58)).cell? ⟨w.heap.size + 1, 0, none⟩ = some (.int .i64 a0) := by first | (simp; done) | go_simp
  have R1 : (((w.alloc (.cells #[.int .i64 x0, .int .i64 y0, .int .i64 x1, .int .i64 y1, .int .i64 (base : Int), .bool true] 58)).alloc (.cells #[.int .i64 a0, .int .i64 b0, .int .i64 a1, .int .i64 b1] 33)).alloc (.cells #[.int .i64 0, .int .i64 0, .int .i64 0, .int .i64 0, .int .i64 0, .bool false] 58)).cell? ⟨w.heap.size + 1, 1, none⟩ = some (.int .i64 b0) := by first | (simp; done) | go_simp
  have R2 : (((w.alloc (.cells #[.int .i64 x0, .int .i64 y0, .int .i64 x1, .int .i64 y1, .int .i64 (base : Int), .bool true] 58)).alloc (.cells #[.int .i64 a0, .int .i64 b0, .int .i64 a1, .int .i64 b1] 33)).alloc (.cells #[.int .i64 0, .int .i64 0, .int .i64 0, .int .i64 0, .int .i64 0, .bool false] 58)).cell? ⟨w.heap.size + 1, 2, none⟩ = some (.int .i64 a1) := by first | (simp; done) | go_simp
  have R3 : (((w.alloc (.cells #[.int .i64 x0, .int .i64 y0, .int .i64 x1, .int .i64 y1, .int .i64 (base : Int), .bool true] 58)).alloc (.cells #[.int .i64 a0, .int .i64 b0, .int .i64 a1, .int .i64 b1] 33)).alloc (.cells #[.int .i64 0, .int .i64 0, .int .i64 0, .int .i64 0, .int .i64 0, .bool false] 58)).cell? ⟨w.heap.size + 1, 3, none⟩ = some (.int .i64 b1) := by first | (simp; done) | go_simp
  have Z0 : (((w.alloc (.cells #[.int .i64 x0, .int .i64 y0, .int .i64 x1, .int .i64 y1, .int .i64 (base : Int), .bool true] 58)).alloc (.cells #[.int .i64 a0, .int .i64 b0, .int .i64 a1, .int .i64 b1] 33)).alloc (.cells #[.int .i64 0, .int .i64 0, .int .i64 0, .int .i64 0, .int .i64 0, .bool false] 58)).cell? ⟨w.heap.size + 1 + 1, 0, none⟩ = some (.int .i64 0) := by first | (simp; done) | go_simp
  have Z1 : (((w.alloc (.cells #[.int .i64 x0, .int .i64 y0, .int .i64 x1, .int .i64 y1, .int .i64 (base : Int), .bool true] 58)).alloc (.cells #[.int .i64 a0, .int .i64 b0, .int .i64 a1, .int .i64 b1] 33)).alloc (.cells #[.int .i64 0, .int .i64 0, .int .i64 0, .int .i64 0, .int .i64 0, .bool false] 58)).cell? ⟨w.heap.size + 1 + 1, 1, none⟩ = some (.int .i64 0) := by first | (simp; done) | go_simp
  have Z2 : (((w.alloc (.cells #[.int .i64 x0, .int .i64 y0, .int .i64 x1, .int .i64 y1, .int .i64 (base : Int), .bool true] 58)).alloc (.cells #[.int .i64 a0, .int .i64 b0, .int .i64 a1, .int .i64 b1] 33)).alloc (.cells #[.int .i64 0, .int .i64 0, .int .i64 0, .int .i64 0, .int .i64 0, .bool false] 58)).cell? ⟨w.heap.size + 1 + 1, 2, none⟩ = some (.int .i64 0) := by first | (simp; done) | go_simp
  have Z3 : (((w.alloc (.cells #[.int .i64 x0, .int .i64 y0, .int .i64 x1, .int .i64 y1, .int .i64 (base : Int), .bool true] 58)).alloc (.cells #[.int .i64 a0, .int .i64 b0, .int .i64 a1, .int .i64 b1] 33)).alloc (.cells #[.int .i64 0, .int .i64 0, .int .i64 0, .int .i64 0, .int .i64 0, .bool false] 58)).cell? ⟨w.heap.size + 1 + 1, 3, none⟩ = some (.int .i64 0) := by first | (simp; done) | go_simp
  have Z4 : (((w.alloc (.cells #[.int .i64 x0, .int .i64 y0, .int .i64 x1, .int .i64 y1, .int .i64 (base : Int), .bool true] 58)).alloc (.cells #[.int .i64 a0, .int .i64 b0, .int .i64 a1, .int .i64 b1] 33)).alloc (.cells #[.int .i64 0, .int .i64 0, .int .i64 0, .int .i64 0, .int .i64 0, .bool false] 58)).cell? ⟨w.heap.size + 1 + 1, 4, none⟩ = some (.int .i64 0) := by first | (simp; done) | go_simp
  have Z5 : (((w.alloc (.cells #[.int .i64 x0, .int .i64 y0, .int .i64 x1, .int .i64 y1, .int .i64 (base : Int), .bool true] 58)).alloc (.cells #[.int .i64 a0, .int .i64 b0, .int .i64 a1, .int .i64 b1] 33)).alloc (.cells #[.int .i64 0, .int .i64 0, .int .i64 0, .int .i64 0, .int .i64 0, .bool false] 58)).cell? ⟨w.heap.size + 1 + 1, 5, none⟩ = some (.bool false) := by first | (simp; done) | go_simp
  have F0 : (((w.alloc (.cells #[.int .i64 x0, .int .i64 y0, .int .i64 x1, .int .i64 y1, .int .i64 (base : Int), .bool true] 58)).alloc (.cells #[.int .i64 a0, .int .i64 b0, .int .i64 a1, .int .i64 b1] 33)).alloc (.cells #[.int .i64 0, .int .i64 0, .int .i64 0, .int .i64 0, .int .i64 0, .bool false] 58)).frozen? ⟨w.heap.size + 1 + 1, 0, none⟩ = false := by first | (simp; done) | go_simp
  have F1 : (((w.alloc (.cells #[.int .i64 x0, .int .i64 y0, .int .i64 x1, .int .i64 y1, .int .i64 (base : Int), .bool true] 58)).alloc (.cells #[.int .i64 a0, .int .i64 b0, .int .i64 a1, .int .i64 b1] 33)).alloc (.cells #[.int .i64 0, .int .i64 0, .int .i64 0, .int .i64 0, .int .i64 0, .bool false] 58)).frozen? ⟨w.heap.size + 1 + 1, 1, none⟩ = false := by first | (simp; done) | go_simp
  have F2 : (((w.alloc (.cells #[.int .i64 x0, .int .i64 y0, .int .i64 x1, .int .i64 y1, .int .i64 (base : Int), .bool true] 58)).alloc (.cells #[.int .i64 a0, .int .i64 b0, .int .i64 a1, .int .i64 b1] 33)).alloc (.cells #[.int .i64 0, .int .i64 0, .int .i64 0, .int .i64 0, .int .i64 0, .bool false] 58)).frozen? ⟨w.heap.size + 1 + 1, 2, none⟩ = false := by first | (simp; done) | go_simp
  have F3 : (((w.alloc (.cells #[.int .i64 x0, .int .i64 y0, .int .i64 x1, .int .i64 y1, .int .i64 (base : Int), .bool true] 58)).alloc (.cells #[.int .i64 a0, .int .i64 b0, .int .i64 a1, .int .i64 b1] 33)).alloc (.cells #[.int .i64 0, .int .i64 0, .int .i64 0, .int .i64 0, .int .i64 0, .bool false] 58)).frozen? ⟨w.heap.size + 1 + 1, 3, none⟩ = false := by first | (simp; done) | go_simp
  have F4 : (((w.alloc (.cells #[.int .i64 x0, .int .i64 y0, .int .i64 x1, .int .i64 y1, .int .i64 (base : Int), .bool true] 58)).alloc (.cells #[.int .i64 a0, .int .i64 b0, .int .i64 a1, .int .i64 b1] 33)).alloc (.cells #[.int .i64 0, .int .i64 0, .int .i64 0, .int .i64 0, .int .i64 0, .bool false] 58)).frozen? ⟨w.heap.size + 1 + 1, 4, none⟩ = false := by first | (simp; done) | go_simp
  have F5 : (((w.alloc (.cells #[.int .i64 x0, .int .i64 y0, .int .i64 x1, .int .i64 y1, .int .i64 (base : Int), .bool true] 58)).alloc (.cells #[.int .i64 a0, .int .i64 b0, .int .i64 a1, .int .i64 b1] 33)).alloc (.cells #[.int .i64 0, .int .i64 0, .int .i64 0, .int .i64 0, .int .i64 0, .bool false] 58)).frozen? ⟨w.heap.size + 1 + 1, 5, none⟩ = false := by first | (simp; done) | go_simp
  go_enter Try.func39, Try.ntmps39
  go_wp2_with fail
  generalize ((w.alloc (.cells #[.int .i64 x0, .int .i64 y0, .int .i64 x1, .int .i64 y1, .int .i64 (base : Int), .bool true] 58)).alloc (.cells #[.int .i64 a0, .int .i64 b0, .int .i64 a1, .int .i64 b1] 33)).alloc (.cells #[.int .i64 0, .int .i64 0, .int .i64 0, .int .i64 0, .int .i64 0, .bool false] 58) = W0 at *
  refine (common_some x0 y0 x1 y1 a0 b0 a1 b1 _ n1 n2 n3 n4 n5.out n6.out).mono ?_
  rw [m1.out, m2.out, m3.out, m4.out]
  rintro e w1 ⟨rfl, hb1⟩
  replace F0 := frozenK Z0 F0 hb1
  replace F1 := frozenK Z1 F1 hb1
  replace F2 := frozenK Z2 F2 hb1
  replace F3 := frozenK Z3 F3 hb1
  replace F4 := frozenK Z4 F4 hb1
  replace F5 := frozenK Z5 F5 hb1
  replace hsz := Nat.lt_of_lt_of_le hsz hb1.size
  replace V0 := cell_kept V0 hb1
  replace V1 := cell_kept V1 hb1
  replace V2 := cell_kept V2 hb1
  replace V3 := cell_kept V3 hb1
  replace V4 := cell_kept V4 hb1
  replace V5 := cell_kept V5 hb1
  replace R0 := cell_kept R0 hb1
  replace R1 := cell_kept R1 hb1
  replace R2 := cell_kept R2 hb1
  replace R3 := cell_kept R3 hb1
  replace Z0 := cell_kept Z0 hb1
  replace Z1 := cell_kept Z1 hb1
  replace Z2 := cell_kept Z2 hb1
  replace Z3 := cell_kept Z3 hb1
  replace Z4 := cell_kept Z4 hb1
  replace Z5 := cell_kept Z5 hb1
  replace hB := hB.trans (hb1.mono hB.size)
  clear hb1
  have hK : ∀ i v, (#[.int .i64 c0, .int .i64 d0, .int .i64 c1, .int .i64 d1] : Array Value)[i]? = some v → (w1.alloc (.cells #[.int .i64 c0, .int .i64 d0, .int .i64 c1, .int .i64 d1] 33)).cell? ⟨w1.heap.size, i, none⟩ = some v := fun i v hv => (cell_of_row _ _ _ _ _ _ (heap_alloc_new w1 _)).trans hv
  have K0 := hK 0 _ rfl
  have K1 := hK 1 _ rfl
  have K2 := hK 2 _ rfl
  have K3 := hK 3 _ rfl
  have aw : Below w1.heap.size w1 (w1.alloc (.cells #[.int .i64 c0, .int .i64 d0, .int .i64 c1, .int .i64 d1] 33)) := (Below.refl _ _).alloc (Nat.le_refl _) _
  have F0' := frozenK Z0 F0 aw
  have F1' := frozenK Z1 F1 aw
  have F2' := frozenK Z2 F2 aw
  have F3' := frozenK Z3 F3 aw
  have F4' := frozenK Z4 F4 aw
  have F5' := frozenK Z5 F5 aw
  replace V0 := cell_kept V0 aw
  replace V1 := cell_kept V1 aw
  replace V2 := cell_kept V2 aw
  replace V3 := cell_kept V3 aw
  replace V4 := cell_kept V4 aw
  replace V5 := cell_kept V5 aw
  replace R0 := cell_kept R0 aw
  replace R1 := cell_kept R1 aw
  replace R2 := cell_kept R2 aw
  replace R3 := cell_kept R3 aw
  replace Z0 := cell_kept Z0 aw
  replace Z1 := cell_kept Z1 aw
  replace Z2 := cell_kept Z2 aw
  replace Z3 := cell_kept Z3 aw
  replace Z4 := cell_kept Z4 aw
  replace Z5 := cell_kept Z5 aw
  replace hB := hB.trans (aw.mono hB.size)
  have hsz0 := hsz
  replace hsz := Nat.lt_of_lt_of_le hsz aw.size
  clear hK aw F0 F1 F2 F3 F4 F5
  go_wp2_with fail
  generalize hW1 : w1.alloc (.cells #[.int .i64 c0, .int .i64 d0, .int .i64 c1, .int .i64 d1] 33) = W1 at *
  have hszc : w.heap.size + 2 < w1.heap.size := hsz0
  generalize w1.heap.size = bc at *
  clear hW1
  have P0 : Below W1.heap.size W1 W1.drew := (Below.refl _ _).drew
  have toS : ∀ W' : World, Below W1.heap.size W1 W' → (W'.cell? ⟨w.heap.size, 0, none⟩ = some (.int .i64 x0) ∧ W'.cell? ⟨w.heap.size, 1, none⟩ = some (.int .i64 y0) ∧ W'.cell? ⟨w.heap.size, 2, none⟩ = some (.int .i64 x1) ∧ W'.cell? ⟨w.heap.size, 3, none⟩ = some (.int .i64 y1) ∧ W'.cell? ⟨w.heap.size, 4, none⟩ = some (.int .i64 (base : Int)) ∧ W'.cell? ⟨w.heap.size, 5, none⟩ = some (.bool true) ∧ W'.cell? ⟨bc, 0, none⟩ = some (.int .i64 c0) ∧ W'.cell? ⟨bc, 1, none⟩ = some (.int .i64 d0) ∧ W'.cell? ⟨bc, 2, none⟩ = some (.int .i64 c1) ∧ W'.cell? ⟨bc, 3, none⟩ = some (.int .i64 d1)) := fun W' h => ⟨cell_kept V0 h, cell_kept V1 h, cell_kept V2 h, cell_kept V3 h, cell_kept V4 h, cell_kept V5 h, cell_kept K0 h, cell_kept K1 h, cell_kept K2 h, cell_kept K3 h⟩
  have TOS := Lib.hid toS
  clear toS
  have hw1 : IntKind.i64.wrap ((base : Int) + (k : Int)) = (base : Int) + (k : Int) := IntWalk.i64_in _ (by omega)
  have hbc1 : ¬ bc = w.heap.size + 1 + 1 := by omega
  have hbc2 : ¬ w.heap.size + 1 + 1 = bc := by omega
  have hbc3 : ¬ w.heap.size + 1 + 1 = w.heap.size := by omega
  have hbc4 : ¬ w.heap.size = w.heap.size + 1 + 1 := by omega
  go_region_held3 (fun w' => w'.cell? ⟨w.heap.size, 0, none⟩ = some (.int .i64 x0) ∧ w'.cell? ⟨w.heap.size, 1, none⟩ = some (.int .i64 y0) ∧ w'.cell? ⟨w.heap.size, 2, none⟩ = some (.int .i64 x1) ∧ w'.cell? ⟨w.heap.size, 3, none⟩ = some (.int .i64 y1) ∧ w'.cell? ⟨w.heap.size, 4, none⟩ = some (.int .i64 (base : Int)) ∧ w'.cell? ⟨w.heap.size, 5, none⟩ = some (.bool true) ∧ w'.cell? ⟨bc, 0, none⟩ = some (.int .i64 c0) ∧ w'.cell? ⟨bc, 1, none⟩ = some (.int .i64 d0) ∧ w'.cell? ⟨bc, 2, none⟩ = some (.int .i64 c1) ∧ w'.cell? ⟨bc, 3, none⟩ = some (.int .i64 d1))
    (first | (refine TOS.out _ ?_; first | with_reducible exact P1 | with_reducible exact P0) | go_keep)
    (first | (go_at_call 38; refine (offs_any x0 y0 x1 y1 s c0 d0 _ q1 q2 q3 q4 p1 p2).mono ?_; rintro e u1 ⟨rfl, hv1⟩; rw [HK.out]; have P1 : Below W1.heap.size W1 u1 := P0.trans (hv1.mono P0.size); have G0 := frozenK Z0 F0' P1; have Y0 := cell_kept Z0 P1; have G1 := frozenK Z1 F1' P1; have Y1 := cell_kept Z1 P1; have G2 := frozenK Z2 F2' P1; have Y2 := cell_kept Z2 P1; have G3 := frozenK Z3 F3' P1; have Y3 := cell_kept Z3 P1; have G4 := frozenK Z4 F4' P1; have Y4 := cell_kept Z4 P1; have G5 := frozenK Z5 F5' P1; have Y5 := cell_kept Z5 P1; obtain ⟨U0, U1, U2, U3, U4, U5, U6, U7, U8, U9⟩ := TOS.out _ P1))
  go_wp2
  refine bodyPost_ret (v := .agg #[.int .i64 c0, .int .i64 d0, .int .i64 c1, .int .i64 d1, .int .i64 ((base : Int) + (k : Int)), .bool true]) (by simp [results, Try.results39, go_sem, Y0, Y1, Y2, Y3, Y4, Y5]) rfl ⟨by simp, ?_⟩
  exact ((((((hB.trans (P1.mono hB.size)).setCell (Nat.le_add_right w.heap.size 2) _).setCell (Nat.le_add_right w.heap.size 2) _).setCell (Nat.le_add_right w.heap.size 2) _).setCell (Nat.le_add_right w.heap.size 2) _).setCell (Nat.le_add_right w.heap.size 2) _).setCell (Nat.le_add_right w.heap.size 2) _

/-- Seen, whatever is seen. -/
theorem seen_any (v : ViewD) (s : Int) (p : StepD) (n : Nat) (hG : GoodV s n v) (hn : n ≤ 140737488351232) (w : World) :
    Calls Try.prog 39 #[.agg #[.int .i64 v.x0, .int .i64 v.y0, .int .i64 v.x1, .int .i64 v.y1, .int .i64 (v.base : Int), .bool v.on], .int .i64 s, .int .i64 1, .agg #[.int .i64 p.r0, .int .i64 p.r1, .int .i64 p.r2, .int .i64 p.r3]] w fun e w' => e = .returned (.agg #[.int .i64 (seenV s v p).x0, .int .i64 (seenV s v p).y0, .int .i64 (seenV s v p).x1, .int .i64 (seenV s v p).y1, .int .i64 ((seenV s v p).base : Int), .bool (seenV s v p).on]) ∧ Below w.heap.size w w' := by
  by_cases hM : Meets v p
  · obtain ⟨k, hk, hkn, e0⟩ := seen_place hG hM
    obtain ⟨hon, n5, n6⟩ := id hM
    have hI : Insd v.x0 v.y0 v.x1 v.y1 (max v.x0 p.r0) (max v.y0 p.r1) := (within_of v.x0 v.y0 v.x1 v.y1 p.r0 p.r1 p.r2 p.r3).insd ⟨Int.le_refl _, n5, Int.le_refl _, n6⟩
    have hpr := hG.2.1.prods hI
    obtain ⟨b1, b2, b3, b4⟩ := near_point hG.2.1 hI
    obtain ⟨p1, p2⟩ : -2305843009213693952 ≤ (max v.y0 p.r1 - v.y0) * s ∧ (max v.y0 p.r1 - v.y0) * s ≤ 2305843009213693952 := by omega
    rw [e0, hon]
    exact seen_some v.x0 v.y0 v.x1 v.y1 v.base s p.r0 p.r1 p.r2 p.r3 w _ _ _ _ k rfl rfl rfl rfl n5 n6 (by omega) (by omega) (by omega) (by omega) hk (by omega) b1 b2 b3 b4 p1 p2
  · have e0 : seenV s v p = zeroV := by unfold seenV; rw [if_neg hM]
    rw [e0]
    by_cases hon : v.on = true
    · rw [hon]
      refine seen_none v.x0 v.y0 v.x1 v.y1 v.base s p.r0 p.r1 p.r2 p.r3 w ?_
      by_cases h2 : max v.x0 p.r0 < min v.x1 p.r2 ∧ max v.y0 p.r1 < min v.y1 p.r3
      · exact absurd ⟨hon, h2.1, h2.2⟩ hM
      · show _ ∨ _
        omega
    · rw [show v.on = false by simpa using hon]
      obtain ⟨C0, C1, C2, C3, cb, hC⟩ := com_of v.x0 v.y0 v.x1 v.y1 p.r0 p.r1 p.r2 p.r3
      exact seen_off v.x0 v.y0 v.x1 v.y1 v.base s p.r0 p.r1 p.r2 p.r3 w C0 C1 C2 C3 cb hC

end Go.Proofs.Ytkhgobeeaiagfaa
