/- ContainsFunc over bytes that are all zero; the walk of the law FnNYCbCrANewBlank. -/
import Derived.Test.YtcomldkihibfjaaFilmCat
namespace Go.Proofs.Ytcomldkihibfjaa
open Go.RowKit
set_option linter.unusedVariables false
set_option linter.unusedSimpArgs false

theorem clo_any (w : World) : Calls Try.prog 27 #[.int .u8 0] w fun e w' => e = .returned (.bool false) ∧ w = w' := by
  go_enter Try.func27, Try.ntmps27
  go_wp2
  go_ret
  exact ⟨by simp, rfl⟩

theorem index_some (b o n c : Nat) (w : World) (hn : (n : Int) ≤ 2097152) (hc : Hid (∀ k, k < n → w.cell? ⟨b, o + k, none⟩ = some (.int .u8 0))) :
    Calls Try.prog 42 #[.slice (some ⟨b, o, none⟩) n c, (.func (.func 27) #[] #[])] w fun e w' => e = .returned (.int .i64 (-1)) ∧ w = w' := by
  go_enter Try.func42, Try.ntmps42
  go_wp2
  go_loop [8] (fun i => ∃ k : Nat, k ≤ n ∧ i = .int .i64 k) (fun i => n - (intOf i).toNat)
  case atStart => exact ⟨0, Nat.zero_le _, rfl⟩
  case round =>
    obtain ⟨k, hk, rfl⟩ := hrel
    by_cases hlt : k < n
    · have hcell := hc.out k hlt
      go_wp2_with (go_at_call 27; refine (clo_any _).mono ?_; rintro e w' ⟨rfl, rfl⟩)
      go_round
      case rel => exact ⟨k + 1, by omega, by go_num⟩
      case measure => simp [intOf]; omega
    · go_wp2
      go_ret
      exact ⟨rfl, rfl⟩

theorem index_none (A : Option Addr) (c : Nat) (w : World) :
    Calls Try.prog 42 #[.slice A 0 c, (.func (.func 27) #[] #[])] w fun e w' => e = .returned (.int .i64 (-1)) ∧ w = w' := by
  go_enter Try.func42, Try.ntmps42
  go_wp2
  go_loop [8] (fun i => i = .int .i64 0) (fun _ => 0)
  case atStart => rfl
  case round =>
    obtain rfl := hrel
    go_wp2
    go_ret
    exact ⟨rfl, rfl⟩

theorem index_zeros (A : Option Addr) (n c : Nat) (w : World) (hn : n ≤ 2097152) (hr : Reads w A (zeros n)) :
    Calls Try.prog 42 #[.slice A (zeros n).length c, (.func (.func 27) #[] #[])] w fun e w' => e = .returned (.int .i64 (-1)) ∧ w = w' := by
  rcases Nat.eq_zero_or_pos n with rfl | hp
  · exact index_none A c w
  · obtain ⟨b, o, rfl⟩ := hr.addr (by rw [zeros_length]; exact hp)
    rw [zeros_length]
    refine index_some b o n c w (by omega) (fun k hk => ?_)
    have := hr.cell (j := k) (by rw [zeros_length]; exact hk)
    simpa [zeros, hk] using this

theorem contains_zeros (A : Option Addr) (n c : Nat) (w : World) (hn : n ≤ 2097152) (hr : Hid (Reads w A (zeros n))) :
    Calls Try.prog 26 #[.slice A (zeros n).length c, (.func (.func 27) #[] #[])] w fun e w' => e = .returned (.bool false) ∧ w = w' := by
  go_enter Try.func26, Try.ntmps26
  go_wp2_with fail
  refine (index_zeros A n c _ hn hr.out).mono ?_
  rintro e w1 ⟨rfl, rfl⟩
  go_wp2
  go_ret
  exact ⟨by simp, rfl⟩


set_option maxRecDepth 100000 in
set_option maxHeartbeats 2000000 in
theorem blank_g0 (x0 y0 x1 y1 rt : Int) (w : World)  (hF : Hid (¬ (Fair x0 y0 x1 y1))) :
    Calls Try.prog 6 #[.agg #[.int .i64 x0, .int .i64 y0, .int .i64 x1, .int .i64 y1], .int .i64 rt] w fun e w' => e = .returned (.bool true) ∧ Below w.heap.size w w' := by
  have hB : Below w.heap.size w (w.alloc (.cells #[.int .i64 x0, .int .i64 y0, .int .i64 x1, .int .i64 y1] 23)) := (Below.refl _ _).alloc (Nat.le_refl _) _
  have R0 : (w.alloc (.cells #[.int .i64 x0, .int .i64 y0, .int .i64 x1, .int .i64 y1] 23)).cell? ⟨w.heap.size, 0, none⟩ = some (.int .i64 x0) := by first | (simp; done) | go_simp
  have R1 : (w.alloc (.cells #[.int .i64 x0, .int .i64 y0, .int .i64 x1, .int .i64 y1] 23)).cell? ⟨w.heap.size, 1, none⟩ = some (.int .i64 y0) := by first | (simp; done) | go_simp
  have R2 : (w.alloc (.cells #[.int .i64 x0, .int .i64 y0, .int .i64 x1, .int .i64 y1] 23)).cell? ⟨w.heap.size, 2, none⟩ = some (.int .i64 x1) := by first | (simp; done) | go_simp
  have R3 : (w.alloc (.cells #[.int .i64 x0, .int .i64 y0, .int .i64 x1, .int .i64 y1] 23)).cell? ⟨w.heap.size, 3, none⟩ = some (.int .i64 y1) := by first | (simp; done) | go_simp
  go_enter Try.func6, Try.ntmps6
  go_wp2_with fail
  generalize w.alloc (.cells #[.int .i64 x0, .int .i64 y0, .int .i64 x1, .int .i64 y1] 23) = W0 at *
  refine (box_any x0 y0 x1 y1 _).mono ?_
  rintro e w1 ⟨rfl, hb1⟩
  replace R0 := cell_kept R0 hb1
  replace R1 := cell_kept R1 hb1
  replace R2 := cell_kept R2 hb1
  replace R3 := cell_kept R3 hb1
  replace hB := hB.trans (hb1.mono hB.size)
  clear hb1
  go_wp2_with fail
  refine (fair_any x0 y0 x1 y1 false (by simp [hF.out]) _).mono ?_
  rintro e w2 ⟨rfl, hb2⟩
  replace R0 := cell_kept R0 hb2
  replace R1 := cell_kept R1 hb2
  replace R2 := cell_kept R2 hb2
  replace R3 := cell_kept R3 hb2
  replace hB := hB.trans (hb2.mono hB.size)
  clear hb2
  go_wp2
  go_ret
  exact ⟨by simp, hB⟩

set_option maxRecDepth 100000 in
set_option maxHeartbeats 2000000 in
theorem blank_g1 (x0 y0 x1 y1 rt : Int) (w : World) (hF : Hid (Fair x0 y0 x1 y1)) (hQ : Hid (¬ (0 ≤ rt ∧ rt ≤ 5))) :
    Calls Try.prog 6 #[.agg #[.int .i64 x0, .int .i64 y0, .int .i64 x1, .int .i64 y1], .int .i64 rt] w fun e w' => e = .returned (.bool true) ∧ Below w.heap.size w w' := by
  have hB : Below w.heap.size w (w.alloc (.cells #[.int .i64 x0, .int .i64 y0, .int .i64 x1, .int .i64 y1] 23)) := (Below.refl _ _).alloc (Nat.le_refl _) _
  have R0 : (w.alloc (.cells #[.int .i64 x0, .int .i64 y0, .int .i64 x1, .int .i64 y1] 23)).cell? ⟨w.heap.size, 0, none⟩ = some (.int .i64 x0) := by first | (simp; done) | go_simp
  have R1 : (w.alloc (.cells #[.int .i64 x0, .int .i64 y0, .int .i64 x1, .int .i64 y1] 23)).cell? ⟨w.heap.size, 1, none⟩ = some (.int .i64 y0) := by first | (simp; done) | go_simp
  have R2 : (w.alloc (.cells #[.int .i64 x0, .int .i64 y0, .int .i64 x1, .int .i64 y1] 23)).cell? ⟨w.heap.size, 2, none⟩ = some (.int .i64 x1) := by first | (simp; done) | go_simp
  have R3 : (w.alloc (.cells #[.int .i64 x0, .int .i64 y0, .int .i64 x1, .int .i64 y1] 23)).cell? ⟨w.heap.size, 3, none⟩ = some (.int .i64 y1) := by first | (simp; done) | go_simp
  go_enter Try.func6, Try.ntmps6
  go_wp2_with fail
  generalize w.alloc (.cells #[.int .i64 x0, .int .i64 y0, .int .i64 x1, .int .i64 y1] 23) = W0 at *
  refine (box_any x0 y0 x1 y1 _).mono ?_
  rintro e w1 ⟨rfl, hb1⟩
  replace R0 := cell_kept R0 hb1
  replace R1 := cell_kept R1 hb1
  replace R2 := cell_kept R2 hb1
  replace R3 := cell_kept R3 hb1
  replace hB := hB.trans (hb1.mono hB.size)
  clear hb1
  go_wp2_with fail
  refine (fair_any x0 y0 x1 y1 true (by simp [hF.out]) _).mono ?_
  rintro e w2 ⟨rfl, hb2⟩
  replace R0 := cell_kept R0 hb2
  replace R1 := cell_kept R1 hb2
  replace R2 := cell_kept R2 hb2
  replace R3 := cell_kept R3 hb2
  replace hB := hB.trans (hb2.mono hB.size)
  clear hb2
  go_wp2_with fail
  refine (ratio_any rt false (by have := hQ.out; simp only [this]; simp) _).mono ?_
  rintro e w' ⟨rfl, rfl⟩
  go_wp2
  go_ret
  exact ⟨by simp, hB⟩

set_option maxRecDepth 100000 in
set_option maxHeartbeats 2000000 in
theorem blank_g2 (x0 y0 x1 y1 rt : Int) (w : World) (hF : Hid (Fair x0 y0 x1 y1)) (hQ : Hid (0 ≤ rt ∧ rt ≤ 5)) (m1 : x0 < 0) :
    Calls Try.prog 6 #[.agg #[.int .i64 x0, .int .i64 y0, .int .i64 x1, .int .i64 y1], .int .i64 rt] w fun e w' => e = .returned (.bool true) ∧ Below w.heap.size w w' := by
  have hB : Below w.heap.size w (w.alloc (.cells #[.int .i64 x0, .int .i64 y0, .int .i64 x1, .int .i64 y1] 23)) := (Below.refl _ _).alloc (Nat.le_refl _) _
  have R0 : (w.alloc (.cells #[.int .i64 x0, .int .i64 y0, .int .i64 x1, .int .i64 y1] 23)).cell? ⟨w.heap.size, 0, none⟩ = some (.int .i64 x0) := by first | (simp; done) | go_simp
  have R1 : (w.alloc (.cells #[.int .i64 x0, .int .i64 y0, .int .i64 x1, .int .i64 y1] 23)).cell? ⟨w.heap.size, 1, none⟩ = some (.int .i64 y0) := by first | (simp; done) | go_simp
  have R2 : (w.alloc (.cells #[.int .i64 x0, .int .i64 y0, .int .i64 x1, .int .i64 y1] 23)).cell? ⟨w.heap.size, 2, none⟩ = some (.int .i64 x1) := by first | (simp; done) | go_simp
  have R3 : (w.alloc (.cells #[.int .i64 x0, .int .i64 y0, .int .i64 x1, .int .i64 y1] 23)).cell? ⟨w.heap.size, 3, none⟩ = some (.int .i64 y1) := by first | (simp; done) | go_simp
  go_enter Try.func6, Try.ntmps6
  go_wp2_with fail
  generalize w.alloc (.cells #[.int .i64 x0, .int .i64 y0, .int .i64 x1, .int .i64 y1] 23) = W0 at *
  refine (box_any x0 y0 x1 y1 _).mono ?_
  rintro e w1 ⟨rfl, hb1⟩
  replace R0 := cell_kept R0 hb1
  replace R1 := cell_kept R1 hb1
  replace R2 := cell_kept R2 hb1
  replace R3 := cell_kept R3 hb1
  replace hB := hB.trans (hb1.mono hB.size)
  clear hb1
  go_wp2_with fail
  refine (fair_any x0 y0 x1 y1 true (by simp [hF.out]) _).mono ?_
  rintro e w2 ⟨rfl, hb2⟩
  replace R0 := cell_kept R0 hb2
  replace R1 := cell_kept R1 hb2
  replace R2 := cell_kept R2 hb2
  replace R3 := cell_kept R3 hb2
  replace hB := hB.trans (hb2.mono hB.size)
  clear hb2
  go_wp2_with fail
  refine (ratio_any rt true (by have := hQ.out; simp only [this]; simp) _).mono ?_
  rintro e w' ⟨rfl, rfl⟩
  go_wp2
  go_ret
  exact ⟨by simp, hB⟩

set_option maxRecDepth 100000 in
set_option maxHeartbeats 2000000 in
theorem blank_g3 (x0 y0 x1 y1 rt : Int) (w : World) (hF : Hid (Fair x0 y0 x1 y1)) (hQ : Hid (0 ≤ rt ∧ rt ≤ 5)) (m1 : 0 ≤ x0) (m2 : y0 < 0) :
    Calls Try.prog 6 #[.agg #[.int .i64 x0, .int .i64 y0, .int .i64 x1, .int .i64 y1], .int .i64 rt] w fun e w' => e = .returned (.bool true) ∧ Below w.heap.size w w' := by
  have hB : Below w.heap.size w (w.alloc (.cells #[.int .i64 x0, .int .i64 y0, .int .i64 x1, .int .i64 y1] 23)) := (Below.refl _ _).alloc (Nat.le_refl _) _
  have R0 : (w.alloc (.cells #[.int .i64 x0, .int .i64 y0, .int .i64 x1, .int .i64 y1] 23)).cell? ⟨w.heap.size, 0, none⟩ = some (.int .i64 x0) := by first | (simp; done) | go_simp
  have R1 : (w.alloc (.cells #[.int .i64 x0, .int .i64 y0, .int .i64 x1, .int .i64 y1] 23)).cell? ⟨w.heap.size, 1, none⟩ = some (.int .i64 y0) := by first | (simp; done) | go_simp
  have R2 : (w.alloc (.cells #[.int .i64 x0, .int .i64 y0, .int .i64 x1, .int .i64 y1] 23)).cell? ⟨w.heap.size, 2, none⟩ = some (.int .i64 x1) := by first | (simp; done) | go_simp
  have R3 : (w.alloc (.cells #[.int .i64 x0, .int .i64 y0, .int .i64 x1, .int .i64 y1] 23)).cell? ⟨w.heap.size, 3, none⟩ = some (.int .i64 y1) := by first | (simp; done) | go_simp
  go_enter Try.func6, Try.ntmps6
  go_wp2_with fail
  generalize w.alloc (.cells #[.int .i64 x0, .int .i64 y0, .int .i64 x1, .int .i64 y1] 23) = W0 at *
  refine (box_any x0 y0 x1 y1 _).mono ?_
  rintro e w1 ⟨rfl, hb1⟩
  replace R0 := cell_kept R0 hb1
  replace R1 := cell_kept R1 hb1
  replace R2 := cell_kept R2 hb1
  replace R3 := cell_kept R3 hb1
  replace hB := hB.trans (hb1.mono hB.size)
  clear hb1
  go_wp2_with fail
  refine (fair_any x0 y0 x1 y1 true (by simp [hF.out]) _).mono ?_
  rintro e w2 ⟨rfl, hb2⟩
  replace R0 := cell_kept R0 hb2
  replace R1 := cell_kept R1 hb2
  replace R2 := cell_kept R2 hb2
  replace R3 := cell_kept R3 hb2
  replace hB := hB.trans (hb2.mono hB.size)
  clear hb2
  go_wp2_with fail
  refine (ratio_any rt true (by have := hQ.out; simp only [this]; simp) _).mono ?_
  rintro e w' ⟨rfl, rfl⟩
  go_wp2
  go_ret
  exact ⟨by simp, hB⟩
theorem zeros_append (a b : Nat) : zeros a ++ zeros b = zeros (a + b) := by simp [zeros]
def four {α : Type} (a b c d : α) (k : Nat) : α := if k = 0 then a else if k = 1 then b else if k = 2 then c else d
theorem cat_four (a c : Nat) : cat (four (zeros a) (zeros c) (zeros c) (zeros a)) 4 = zeros (2 * a + 2 * c) := by
  simp only [cat, four]
  simp only [List.nil_append, zeros_append, if_true, if_neg (by decide : ¬ (1 : Nat) = 0), if_neg (by decide : ¬ (2 : Nat) = 0), if_neg (by decide : ¬ (2 : Nat) = 1), if_neg (by decide : ¬ (3 : Nat) = 0), if_neg (by decide : ¬ (3 : Nat) = 1), if_neg (by decide : ¬ (3 : Nat) = 2)]
  congr 1
  omega
theorem four_cells {w : World} {b : Nat} {A1 A2 A3 A4 : Option Addr} {c1 c2 c3 c4 : Nat} {z1 z2 z3 z4 : List Int}
    (q0 : w.cell? ⟨b, 0, none⟩ = some (.slice A1 z1.length c1)) (q1 : w.cell? ⟨b, 1, none⟩ = some (.slice A2 z2.length c2)) (q2 : w.cell? ⟨b, 2, none⟩ = some (.slice A3 z3.length c3)) (q3 : w.cell? ⟨b, 3, none⟩ = some (.slice A4 z4.length c4))
    (r1 : Reads w A1 z1) (r2 : Reads w A2 z2) (r3 : Reads w A3 z3) (r4 : Reads w A4 z4) (n1 : A1 = none → c1 = 0) (n2 : A2 = none → c2 = 0) (n3 : A3 = none → c3 = 0) (n4 : A4 = none → c4 = 0) :
    ∀ k, k < 4 → w.cell? ⟨b, k, none⟩ = some (.slice (four A1 A2 A3 A4 k) (four z1 z2 z3 z4 k).length (four c1 c2 c3 c4 k)) ∧ Reads w (four A1 A2 A3 A4 k) (four z1 z2 z3 z4 k) ∧ (four A1 A2 A3 A4 k = none → four c1 c2 c3 c4 k = 0) := by
  intro k hk
  have h : k = 0 ∨ k = 1 ∨ k = 2 ∨ k = 3 := by omega
  rcases h with rfl | rfl | rfl | rfl
  · exact ⟨q0, r1, n1⟩
  · exact ⟨q1, r2, n2⟩
  · exact ⟨q2, r3, n3⟩
  · exact ⟨q3, r4, n4⟩
theorem concat_zeros (b a c nn : Nat) (A1 A2 A3 A4 : Option Addr) (c1 c2 c3 c4 : Nat) (z1 z2 : List Int) (h1 : Hid (zeros a = z1)) (h2 : Hid (zeros c = z2)) (hnn : Hid (2 * a + 2 * c = nn)) (hs : Hid (nn ≤ 2097152)) (w : World)
    (q0 : w.cell? ⟨b, 0, none⟩ = some (.slice A1 z1.length c1)) (q1 : w.cell? ⟨b, 1, none⟩ = some (.slice A2 z2.length c2)) (q2 : w.cell? ⟨b, 2, none⟩ = some (.slice A3 z2.length c3)) (q3 : w.cell? ⟨b, 3, none⟩ = some (.slice A4 z1.length c4))
    (r1 : Hid (Reads w A1 z1)) (r2 : Hid (Reads w A2 z2)) (r3 : Hid (Reads w A3 z2)) (r4 : Hid (Reads w A4 z1)) (n1 : Hid (A1 = none → c1 = 0)) (n2 : Hid (A2 = none → c2 = 0)) (n3 : Hid (A3 = none → c3 = 0)) (n4 : Hid (A4 = none → c4 = 0)) :
    Calls Try.prog 25 #[.slice (some ⟨b, 0, none⟩) 4 4] w fun e w' => ∃ (A : Option Addr) (c : Nat), e = .returned (.slice A (zeros nn).length c) ∧ w'.ownsRow w.heap.size 5 1 (.slice A (zeros nn).length c) (zeros nn).length ((zeros nn).map (Value.int .u8)) ∧ Below w.heap.size w w' := by
  have e : cat (four z1 z2 z2 z1) 4 = zeros nn := by rw [← h1.out, ← h2.out, cat_four, hnn.out]
  have hh := four_cells q0 q1 q2 q3 r1.out r2.out r3.out r4.out n1.out n2.out n3.out n4.out
  have hle : (cat (four z1 z2 z2 z1) 4).length ≤ 2097152 := by rw [e, zeros_length]; exact hs.out
  have h := concat_any b 4 (four A1 A2 A3 A4) (four c1 c2 c3 c4) (four z1 z2 z2 z1) w (by decide) hh hle
  rw [e] at h
  exact h

set_option maxRecDepth 100000 in
set_option maxHeartbeats 4000000 in
theorem blank_go (x0 y0 x1 y1 rt : Int) (w : World) (hF : Hid (Fair x0 y0 x1 y1)) (hQ : Hid (0 ≤ rt ∧ rt ≤ 5)) (m1 : 0 ≤ x0) (m2 : 0 ≤ y0) (wd ht cw ch : Nat) (HW : Hid (x1 - x0 = wd)) (HH : Hid (y1 - y0 = ht)) (HC : Hid (cwOf rt x0 x1 = cw)) (HD : Hid (chOf rt y0 y1 = ch)) (bw : (wd : Int) ≤ 65536) (bh : (ht : Int) ≤ 65536) (bcw : (cw : Int) ≤ 65537) (bch : (ch : Int) ≤ 65537) (q1 : wd * ht ≤ 65536) (q2 : cw * ch ≤ 262144) (q3 : 0 < wd * ht → 0 < cw * ch) :
    Calls Try.prog 6 #[.agg #[.int .i64 x0, .int .i64 y0, .int .i64 x1, .int .i64 y1], .int .i64 rt] w fun e w' => e = .returned (.bool true) ∧ Below w.heap.size w w' := by
  obtain ⟨⟨⟨f1, f2⟩, ⟨f3, f4⟩, ⟨f5, f6⟩, ⟨f7, f8⟩⟩, g1, g2, g3, g4, g5⟩ := id hF.out
  have p0 : 0 ≤ (x1 - x0) * (y1 - y0) := Int.mul_nonneg (by omega) (by omega)
  have hB : Below w.heap.size w (w.alloc (.cells #[.int .i64 x0, .int .i64 y0, .int .i64 x1, .int .i64 y1] 23)) := (Below.refl _ _).alloc (Nat.le_refl _) _
  have R0 : (w.alloc (.cells #[.int .i64 x0, .int .i64 y0, .int .i64 x1, .int .i64 y1] 23)).cell? ⟨w.heap.size, 0, none⟩ = some (.int .i64 x0) := by first | (simp; done) | go_simp
  have R1 : (w.alloc (.cells #[.int .i64 x0, .int .i64 y0, .int .i64 x1, .int .i64 y1] 23)).cell? ⟨w.heap.size, 1, none⟩ = some (.int .i64 y0) := by first | (simp; done) | go_simp
  have R2 : (w.alloc (.cells #[.int .i64 x0, .int .i64 y0, .int .i64 x1, .int .i64 y1] 23)).cell? ⟨w.heap.size, 2, none⟩ = some (.int .i64 x1) := by first | (simp; done) | go_simp
  have R3 : (w.alloc (.cells #[.int .i64 x0, .int .i64 y0, .int .i64 x1, .int .i64 y1] 23)).cell? ⟨w.heap.size, 3, none⟩ = some (.int .i64 y1) := by first | (simp; done) | go_simp
  go_enter Try.func6, Try.ntmps6
  go_wp2_with fail
  generalize w.alloc (.cells #[.int .i64 x0, .int .i64 y0, .int .i64 x1, .int .i64 y1] 23) = W0 at *
  refine (box_any x0 y0 x1 y1 _).mono ?_
  rintro e w1 ⟨rfl, hb1⟩
  replace R0 := cell_kept R0 hb1
  replace R1 := cell_kept R1 hb1
  replace R2 := cell_kept R2 hb1
  replace R3 := cell_kept R3 hb1
  replace hB := hB.trans (hb1.mono hB.size)
  clear hb1
  go_wp2_with fail
  refine (fair_any x0 y0 x1 y1 true (by simp [hF.out]) _).mono ?_
  rintro e w2 ⟨rfl, hb2⟩
  replace R0 := cell_kept R0 hb2
  replace R1 := cell_kept R1 hb2
  replace R2 := cell_kept R2 hb2
  replace R3 := cell_kept R3 hb2
  replace hB := hB.trans (hb2.mono hB.size)
  clear hb2
  go_wp2_with fail
  refine (ratio_any rt true (by have := hQ.out; simp only [this]; simp) _).mono ?_
  rintro e w' ⟨rfl, rfl⟩
  go_wp2_with fail
  refine (implNew_any x0 y0 x1 y1 rt wd ht cw ch HW HH HC HD bw bh bcw bch q1 q2 q3 _ m1 m2 g1 g2 f6 f8 hQ.out.1 hQ.out.2).mono ?_
  rintro e w3 ⟨E1, E2, E3, E4, e1, e2, e3, e4, rfl, ho1, ho2, ho3, ho4, hb3⟩
  have HO1 := Lib.hid ho1
  have HO2 := Lib.hid ho2
  have HO3 := Lib.hid ho3
  have HO4 := Lib.hid ho4
  clear ho1 ho2 ho3 ho4
  replace R0 := cell_kept R0 hb3
  replace R1 := cell_kept R1 hb3
  replace R2 := cell_kept R2 hb3
  replace R3 := cell_kept R3 hb3
  replace hB := hB.trans (hb3.mono hB.size)
  clear hb3
  have HSM : Hid (2 * (wd * ht) + 2 * (cw * ch) ≤ 2097152) := by unfold Hid; omega
  generalize hz1 : zeros (wd * ht) = z1 at *
  generalize hz2 : zeros (cw * ch) = z2 at *
  have d1 : ((z1.length : Int) == (x1 - x0) * (y1 - y0)) = true := by rw [← hz1, zeros_length, HW.out, HH.out, ← Int.natCast_mul]; simp
  have d2 : ((wd : Int) == x1 - x0) = true := by rw [HW.out]; simp
  have d3 : ((z1.length : Int) == (z1.length : Int)) = true := by simp
  have d4 : ((z2.length : Int) == (z2.length : Int)) = true := by simp
  replace hz1 := Lib.hid hz1
  replace hz2 := Lib.hid hz2
  clear q1 q2 q3 bw bh bcw bch
  obtain ⟨nn, HNN⟩ : ∃ n, Hid (2 * (wd * ht) + 2 * (cw * ch) = n) := ⟨_, rfl⟩
  have HSN : Hid (nn ≤ 2097152) := by unfold Hid; rw [← HNN.out]; exact HSM.out
  clear HSM
  have hszA : (w3.alloc (.cells #[.int .i64 x0, .int .i64 y0, .int .i64 x1, .int .i64 y1, .int .i64 rt, .int .i64 wd, .int .i64 cw, .int .i64 wd, .slice E1 z1.length e1, .slice E2 z2.length e2, .slice E3 z2.length e3, .slice E4 z1.length e4] 30)).heap.size = w3.heap.size + 1 := by simp
  have aw : Below w3.heap.size w3 (w3.alloc (.cells #[.int .i64 x0, .int .i64 y0, .int .i64 x1, .int .i64 y1, .int .i64 rt, .int .i64 wd, .int .i64 cw, .int .i64 wd, .slice E1 z1.length e1, .slice E2 z2.length e2, .slice E3 z2.length e3, .slice E4 z1.length e4] 30)) := (Below.refl _ _).alloc (Nat.le_refl _) _
  replace R0 := cell_kept R0 aw
  replace R1 := cell_kept R1 aw
  replace R2 := cell_kept R2 aw
  replace R3 := cell_kept R3 aw
  replace HO1 := Lib.hid (ownsRow_below HO1.out aw)
  replace HO2 := Lib.hid (ownsRow_below HO2.out aw)
  replace HO3 := Lib.hid (ownsRow_below HO3.out aw)
  replace HO4 := Lib.hid (ownsRow_below HO4.out aw)
  replace hB := hB.trans (aw.mono hB.size)
  have M0 : (w3.alloc (.cells #[.int .i64 x0, .int .i64 y0, .int .i64 x1, .int .i64 y1, .int .i64 rt, .int .i64 wd, .int .i64 cw, .int .i64 wd, .slice E1 z1.length e1, .slice E2 z2.length e2, .slice E3 z2.length e3, .slice E4 z1.length e4] 30)).cell? ⟨w3.heap.size, 0, none⟩ = some (.int .i64 x0) := by simp
  have M1 : (w3.alloc (.cells #[.int .i64 x0, .int .i64 y0, .int .i64 x1, .int .i64 y1, .int .i64 rt, .int .i64 wd, .int .i64 cw, .int .i64 wd, .slice E1 z1.length e1, .slice E2 z2.length e2, .slice E3 z2.length e3, .slice E4 z1.length e4] 30)).cell? ⟨w3.heap.size, 1, none⟩ = some (.int .i64 y0) := by simp
  have M2 : (w3.alloc (.cells #[.int .i64 x0, .int .i64 y0, .int .i64 x1, .int .i64 y1, .int .i64 rt, .int .i64 wd, .int .i64 cw, .int .i64 wd, .slice E1 z1.length e1, .slice E2 z2.length e2, .slice E3 z2.length e3, .slice E4 z1.length e4] 30)).cell? ⟨w3.heap.size, 2, none⟩ = some (.int .i64 x1) := by simp
  have M3 : (w3.alloc (.cells #[.int .i64 x0, .int .i64 y0, .int .i64 x1, .int .i64 y1, .int .i64 rt, .int .i64 wd, .int .i64 cw, .int .i64 wd, .slice E1 z1.length e1, .slice E2 z2.length e2, .slice E3 z2.length e3, .slice E4 z1.length e4] 30)).cell? ⟨w3.heap.size, 3, none⟩ = some (.int .i64 y1) := by simp
  have M4 : (w3.alloc (.cells #[.int .i64 x0, .int .i64 y0, .int .i64 x1, .int .i64 y1, .int .i64 rt, .int .i64 wd, .int .i64 cw, .int .i64 wd, .slice E1 z1.length e1, .slice E2 z2.length e2, .slice E3 z2.length e3, .slice E4 z1.length e4] 30)).cell? ⟨w3.heap.size, 4, none⟩ = some (.int .i64 rt) := by simp
  have M5 : (w3.alloc (.cells #[.int .i64 x0, .int .i64 y0, .int .i64 x1, .int .i64 y1, .int .i64 rt, .int .i64 wd, .int .i64 cw, .int .i64 wd, .slice E1 z1.length e1, .slice E2 z2.length e2, .slice E3 z2.length e3, .slice E4 z1.length e4] 30)).cell? ⟨w3.heap.size, 5, none⟩ = some (.int .i64 wd) := by simp
  have M6 : (w3.alloc (.cells #[.int .i64 x0, .int .i64 y0, .int .i64 x1, .int .i64 y1, .int .i64 rt, .int .i64 wd, .int .i64 cw, .int .i64 wd, .slice E1 z1.length e1, .slice E2 z2.length e2, .slice E3 z2.length e3, .slice E4 z1.length e4] 30)).cell? ⟨w3.heap.size, 6, none⟩ = some (.int .i64 cw) := by simp
  have M7 : (w3.alloc (.cells #[.int .i64 x0, .int .i64 y0, .int .i64 x1, .int .i64 y1, .int .i64 rt, .int .i64 wd, .int .i64 cw, .int .i64 wd, .slice E1 z1.length e1, .slice E2 z2.length e2, .slice E3 z2.length e3, .slice E4 z1.length e4] 30)).cell? ⟨w3.heap.size, 7, none⟩ = some (.int .i64 wd) := by simp
  have M8 : (w3.alloc (.cells #[.int .i64 x0, .int .i64 y0, .int .i64 x1, .int .i64 y1, .int .i64 rt, .int .i64 wd, .int .i64 cw, .int .i64 wd, .slice E1 z1.length e1, .slice E2 z2.length e2, .slice E3 z2.length e3, .slice E4 z1.length e4] 30)).cell? ⟨w3.heap.size, 8, none⟩ = some (.slice E1 z1.length e1) := by simp
  have M9 : (w3.alloc (.cells #[.int .i64 x0, .int .i64 y0, .int .i64 x1, .int .i64 y1, .int .i64 rt, .int .i64 wd, .int .i64 cw, .int .i64 wd, .slice E1 z1.length e1, .slice E2 z2.length e2, .slice E3 z2.length e3, .slice E4 z1.length e4] 30)).cell? ⟨w3.heap.size, 9, none⟩ = some (.slice E2 z2.length e2) := by simp
  have M10 : (w3.alloc (.cells #[.int .i64 x0, .int .i64 y0, .int .i64 x1, .int .i64 y1, .int .i64 rt, .int .i64 wd, .int .i64 cw, .int .i64 wd, .slice E1 z1.length e1, .slice E2 z2.length e2, .slice E3 z2.length e3, .slice E4 z1.length e4] 30)).cell? ⟨w3.heap.size, 10, none⟩ = some (.slice E3 z2.length e3) := by simp
  have M11 : (w3.alloc (.cells #[.int .i64 x0, .int .i64 y0, .int .i64 x1, .int .i64 y1, .int .i64 rt, .int .i64 wd, .int .i64 cw, .int .i64 wd, .slice E1 z1.length e1, .slice E2 z2.length e2, .slice E3 z2.length e3, .slice E4 z1.length e4] 30)).cell? ⟨w3.heap.size, 11, none⟩ = some (.slice E4 z1.length e4) := by simp
  have hltWA : w3.heap.size < (w3.alloc (.cells #[.int .i64 x0, .int .i64 y0, .int .i64 x1, .int .i64 y1, .int .i64 rt, .int .i64 wd, .int .i64 cw, .int .i64 wd, .slice E1 z1.length e1, .slice E2 z2.length e2, .slice E3 z2.length e3, .slice E4 z1.length e4] 30)).heap.size := by simp
  clear aw
  go_wp2_with fail
  generalize w3.alloc (.cells #[.int .i64 x0, .int .i64 y0, .int .i64 x1, .int .i64 y1, .int .i64 rt, .int .i64 wd, .int .i64 cw, .int .i64 wd, .slice E1 z1.length e1, .slice E2 z2.length e2, .slice E3 z2.length e3, .slice E4 z1.length e4] 30) = WA at *
  generalize w3.heap.size = ba at *
  have aw : Below WA.heap.size WA (WA.alloc (.cells #[.slice E1 z1.length e1, .slice E2 z2.length e2, .slice E3 z2.length e3, .slice E4 z1.length e4] 28)) := (Below.refl _ _).alloc (Nat.le_refl _) _
  replace R0 := cell_kept R0 aw
  replace R1 := cell_kept R1 aw
  replace R2 := cell_kept R2 aw
  replace R3 := cell_kept R3 aw
  replace M0 := cell_kept M0 aw
  replace M1 := cell_kept M1 aw
  replace M2 := cell_kept M2 aw
  replace M3 := cell_kept M3 aw
  replace M4 := cell_kept M4 aw
  replace M5 := cell_kept M5 aw
  replace M6 := cell_kept M6 aw
  replace M7 := cell_kept M7 aw
  replace M8 := cell_kept M8 aw
  replace M9 := cell_kept M9 aw
  replace M10 := cell_kept M10 aw
  replace M11 := cell_kept M11 aw
  replace HO1 := Lib.hid (ownsRow_below HO1.out aw)
  replace HO2 := Lib.hid (ownsRow_below HO2.out aw)
  replace HO3 := Lib.hid (ownsRow_below HO3.out aw)
  replace HO4 := Lib.hid (ownsRow_below HO4.out aw)
  replace hB := hB.trans (aw.mono hB.size)
  clear aw
  have B0 : (WA.alloc (.cells #[.slice E1 z1.length e1, .slice E2 z2.length e2, .slice E3 z2.length e3, .slice E4 z1.length e4] 28)).cell? ⟨WA.heap.size, 0, none⟩ = some (.slice E1 z1.length e1) := by first | (simp; done) | go_simp
  have B1 : (WA.alloc (.cells #[.slice E1 z1.length e1, .slice E2 z2.length e2, .slice E3 z2.length e3, .slice E4 z1.length e4] 28)).cell? ⟨WA.heap.size, 1, none⟩ = some (.slice E2 z2.length e2) := by first | (simp; done) | go_simp
  have B2 : (WA.alloc (.cells #[.slice E1 z1.length e1, .slice E2 z2.length e2, .slice E3 z2.length e3, .slice E4 z1.length e4] 28)).cell? ⟨WA.heap.size, 2, none⟩ = some (.slice E3 z2.length e3) := by first | (simp; done) | go_simp
  have B3 : (WA.alloc (.cells #[.slice E1 z1.length e1, .slice E2 z2.length e2, .slice E3 z2.length e3, .slice E4 z1.length e4] 28)).cell? ⟨WA.heap.size, 3, none⟩ = some (.slice E4 z1.length e4) := by first | (simp; done) | go_simp
  generalize WA.alloc (.cells #[.slice E1 z1.length e1, .slice E2 z2.length e2, .slice E3 z2.length e3, .slice E4 z1.length e4] 28) = WB at *
  rw [hszA] at B0 B1 B2 B3
  clear hszA
  generalize ba + 1 = bb at *
  refine (concat_zeros bb (wd * ht) (cw * ch) nn E1 E2 E3 E4 e1 e2 e3 e4 z1 z2 hz1 hz2 HNN HSN _ B0 B1 B2 B3 (show Hid _ from Reads.of_own HO1.out) (show Hid _ from Reads.of_own HO2.out) (show Hid _ from Reads.of_own HO3.out) (show Hid _ from Reads.of_own HO4.out) (show Hid _ from own_nil HO1.out) (show Hid _ from own_nil HO2.out) (show Hid _ from own_nil HO3.out) (show Hid _ from own_nil HO4.out)).mono ?_
  rintro e w4 ⟨A9, c9, rfl, ho9, hb4⟩
  have HO9 := Lib.hid ho9
  clear ho9 B0 B1 B2 B3
  replace R0 := cell_kept R0 hb4
  replace R1 := cell_kept R1 hb4
  replace R2 := cell_kept R2 hb4
  replace R3 := cell_kept R3 hb4
  replace M0 := cell_kept M0 hb4
  replace M1 := cell_kept M1 hb4
  replace M2 := cell_kept M2 hb4
  replace M3 := cell_kept M3 hb4
  replace M4 := cell_kept M4 hb4
  replace M5 := cell_kept M5 hb4
  replace M6 := cell_kept M6 hb4
  replace M7 := cell_kept M7 hb4
  replace M8 := cell_kept M8 hb4
  replace M9 := cell_kept M9 hb4
  replace M10 := cell_kept M10 hb4
  replace M11 := cell_kept M11 hb4
  replace HO1 := Lib.hid (ownsRow_below HO1.out hb4)
  replace HO2 := Lib.hid (ownsRow_below HO2.out hb4)
  replace HO3 := Lib.hid (ownsRow_below HO3.out hb4)
  replace HO4 := Lib.hid (ownsRow_below HO4.out hb4)
  replace hB := hB.trans (hb4.mono hB.size)
  clear hb4
  have HR9 := Lib.hid (Reads.of_own HO9.out)
  go_wp2_with fail
  refine (contains_zeros A9 nn c9 _ HSN.out HR9).mono ?_
  rintro e w' ⟨rfl, rfl⟩
  go_wp2
  go_ret
  exact ⟨by simp, hB⟩

theorem walk_newBlank (x0 y0 x1 y1 rt : Int) (w : World) :
    Calls Try.prog 6 #[.agg #[.int .i64 x0, .int .i64 y0, .int .i64 x1, .int .i64 y1], .int .i64 rt] w fun e w' => e = .returned (.bool true) ∧ Below w.heap.size w w' := by
  by_cases hF : Fair x0 y0 x1 y1
  · by_cases hQ : 0 ≤ rt ∧ rt ≤ 5
    · by_cases m1 : 0 ≤ x0
      · by_cases m2 : 0 ≤ y0
        · obtain ⟨wd, ht, cw, ch, a1, a2, a3, a4, a5, a6, a7, a8, a9, a10, a11⟩ := new_sizes (rt := rt) hF m1 m2
          exact blank_go x0 y0 x1 y1 rt w hF hQ m1 m2 wd ht cw ch a1 a2 a3 a4 a5 a6 a7 a8 a9 a10 a11
        · exact blank_g3 x0 y0 x1 y1 rt w hF hQ m1 (by omega)
      · exact blank_g2 x0 y0 x1 y1 rt w hF hQ (by omega)
    · exact blank_g1 x0 y0 x1 y1 rt w hF hQ
  · exact blank_g0 x0 y0 x1 y1 rt w hF

end Go.Proofs.Ytcomldkihibfjaa
