import Derived.Test.YtimdoelgahemdaaW1
import Derived.WalkKit
import Derived.WalkLawsBesides
import Derived.WalkSpells
import Derived.RegionTactic
import Derived.Deep.RegionHeld3
import Derived.Deep.QuietTactic
import Derived.BigQuiet
import Derived.Outline
import Derived.Lib.Hide
namespace Go.Proofs.Ytimdoelgahemdaa
open Go.RowKit


/-- One channel: what the code makes of the sum x before the alpha is applied. -/
def chan (x : Int) : Int := if (bits .and .u32 (x % 4294967296) 4278190080 == 0) = true then x / 256 else bits .and .i32 (bits .xor .i32 (-1) (x / 2147483648)) 65535
/-- One channel with the alpha applied, as the code computes it in 32 bits. -/
def outc (x a : Int) : Int := chan x % 4294967296 * (a * 257) % 4294967296 / 65535

theorem and_top (n : Nat) (hn : n < 4294967296) : n &&& 4278190080 = 0 ↔ n < 16777216 := by
  constructor
  · intro h
    have h1 : (n &&& 4278190080) >>> 24 = 0 := by rw [h]; rfl
    rw [Nat.shiftRight_and_distrib] at h1
    have h2 : n >>> 24 &&& 255 = (n >>> 24) % 256 := Nat.and_two_pow_sub_one_eq_mod (n >>> 24) 8
    have h3 : (4278190080 : Nat) >>> 24 = 255 := by decide
    rw [h3, h2, Nat.shiftRight_eq_div_pow] at h1
    omega
  · intro h
    apply Nat.eq_of_testBit_eq
    intro i
    rw [Nat.testBit_and, Nat.zero_testBit]
    by_cases hi : i < 24
    · have e : (4278190080 : Nat) = 255 <<< 24 := by decide
      rw [e, Nat.testBit_shiftLeft]
      simp [Nat.not_le.2 hi]
    · have : n < 2 ^ i := Nat.lt_of_lt_of_le h (by have := Nat.pow_le_pow_right (n := 2) (by omega) (Nat.le_of_not_lt hi); omega)
      simp [Nat.testBit_lt_two_pow this]

theorem top_test (x : Int) (hl : -2147483648 ≤ x) (hh : x < 2147483648) : (bits .and .u32 (x % 4294967296) 4278190080 == 0) = decide (0 ≤ x ∧ x < 16777216) := by
  rw [u32_and _ _ (by omega) (by omega) (by omega) (by omega)]
  have h := and_top (x % 4294967296).toNat (by omega)
  rw [Bool.eq_iff_iff]
  simp only [beq_iff_eq, decide_eq_true_eq]
  have e : Int.toNat 4278190080 = 4278190080 := rfl
  rw [e]
  constructor
  · intro h'
    have : (x % 4294967296).toNat < 16777216 := h.1 (by omega)
    omega
  · intro h'
    have := h.2 (by omega)
    omega

theorem chan_val (x : Int) (hl : -2147483648 ≤ x) (hh : x < 2147483648) : chan x = if x < 0 then 0 else if x < 16777216 then x / 256 else 65535 := by
  unfold chan
  rw [top_test x hl hh]
  by_cases h0 : x < 0
  · have e : x / 2147483648 = -1 := by omega
    have : ¬ (0 ≤ x ∧ x < 16777216) := by omega
    simp only [this, decide_false, Bool.false_eq_true, if_false, h0, if_true, e]
    decide
  · by_cases h1 : x < 16777216
    · have : (0 ≤ x ∧ x < 16777216) := by omega
      simp [this, h0]
    · have e : x / 2147483648 = 0 := by omega
      have : ¬ (0 ≤ x ∧ x < 16777216) := by omega
      rw [decide_eq_false this, if_neg h0, if_neg h1, e, if_neg Bool.false_ne_true]
      decide

theorem chan_in (x : Int) (hl : -2147483648 ≤ x) (hh : x < 2147483648) : 0 ≤ chan x ∧ chan x ≤ 65535 := by
  rw [chan_val x hl hh]
  split
  · omega
  · split <;> omega

theorem outc_eq (x a : Int) (hl : -2147483648 ≤ x) (hh : x < 2147483648) (h6 : 0 ≤ a) (h7 : a ≤ 255) : outc x a = chan x * (a * 257) / 65535 := by
  have h := chan_in x hl hh
  have r0 : 0 ≤ chan x * (a * 257) := Int.mul_nonneg h.1 (by omega)
  have r1 : chan x * (a * 257) ≤ 65535 * 65535 := Int.mul_le_mul h.2 (by omega) (by omega) (by omega)
  unfold outc
  rw [Int.emod_eq_of_lt h.1 (by omega), Int.emod_eq_of_lt r0 (by omega)]

theorem outc_in (x a : Int) (hl : -2147483648 ≤ x) (hh : x < 2147483648) (h6 : 0 ≤ a) (h7 : a ≤ 255) : 0 ≤ outc x a ∧ outc x a ≤ a * 257 := by
  have h := chan_in x hl hh
  rw [outc_eq x a hl hh h6 h7]
  exact scaled_le (chan x) (a * 257) h.1 h.2 (by omega) (by omega)

theorem chan_gray (x y : Int) (h0 : 0 ≤ y) (h1 : y ≤ 255) (hx : x = y * 65793) : chan x = y * 257 := by
  rw [chan_val x (by omega) (by omega), if_neg (by omega), if_pos (by omega)]
  omega

theorem outc_full (x y : Int) (h0 : 0 ≤ y) (h1 : y ≤ 255) (hx : x = y * 65793) : outc x 255 = y * 257 := by
  rw [outc_eq x 255 (by omega) (by omega) (by omega) (by omega), chan_gray x y h0 h1 hx]
  omega

set_option maxHeartbeats 1000000 in
theorem rgba23 (y cb cr a : Int) (w : World) (h0 : 0 ≤ y) (h1 : y ≤ 255) (h2 : 0 ≤ cb) (h3 : cb ≤ 255) (h4 : 0 ≤ cr) (h5 : cr ≤ 255) (h6 : 0 ≤ a) (h7 : a ≤ 255) :
    Calls Try.prog 23 #[.agg #[.int .u8 y, .int .u8 cb, .int .u8 cr, .int .u8 a]] w fun e w' => e = .returned (.tuple #[.int .u32 (outc (y * 65793 + 91881 * (cr - 128)) a), .int .u32 (outc (y * 65793 - 22554 * (cb - 128) - 46802 * (cr - 128)) a), .int .u32 (outc (y * 65793 + 116130 * (cb - 128)) a), .int .u32 (a * 257)]) ∧ Below w.heap.size w w' := by
  go_enter Try.func23, Try.ntmps23
  go_wp2
  all_goals
    refine bodyPost_ret (v := .tuple #[.int .u32 (outc (y * 65793 + 91881 * (cr - 128)) a), .int .u32 (outc (y * 65793 - 22554 * (cb - 128) - 46802 * (cr - 128)) a), .int .u32 (outc (y * 65793 + 116130 * (cb - 128)) a), .int .u32 (a * 257)]) ?_ rfl ⟨rfl, (Below.refl _ _).alloc (Nat.le_refl _) _⟩
    simp [results, Try.results23, go_sem, outc, chan, *]

theorem spread17 (y cb cr a : Int) (w : World) (h0 : 0 ≤ y) (h1 : y ≤ 255) (h2 : 0 ≤ cb) (h3 : cb ≤ 255) (h4 : 0 ≤ cr) (h5 : cr ≤ 255) (h6 : 0 ≤ a) (h7 : a ≤ 255) :
    Calls Try.prog 17 #[.agg #[.int .u8 y, .int .u8 cb, .int .u8 cr, .int .u8 a]] w fun e w' => e = .returned (.agg #[.int .u16 (outc (y * 65793 + 91881 * (cr - 128)) a), .int .u16 (outc (y * 65793 - 22554 * (cb - 128) - 46802 * (cr - 128)) a), .int .u16 (outc (y * 65793 + 116130 * (cb - 128)) a), .int .u16 (a * 257)]) ∧ Below w.heap.size w w' := by
  have hr := outc_in (y * 65793 + 91881 * (cr - 128)) a (by omega) (by omega) h6 h7
  have hg := outc_in (y * 65793 - 22554 * (cb - 128) - 46802 * (cr - 128)) a (by omega) (by omega) h6 h7
  have hb := outc_in (y * 65793 + 116130 * (cb - 128)) a (by omega) (by omega) h6 h7
  go_enter Try.func17, Try.ntmps17
  go_wp2_with fail
  refine (rgba23 y cb cr a _ h0 h1 h2 h3 h4 h5 h6 h7).mono ?_
  rintro e w1 ⟨rfl, hb1⟩
  generalize hxr : outc (y * 65793 + 91881 * (cr - 128)) a = xr at *
  generalize hxg : outc (y * 65793 - 22554 * (cb - 128) - 46802 * (cr - 128)) a = xg at *
  generalize hxb : outc (y * 65793 + 116130 * (cb - 128)) a = xb at *
  have Hr := Lib.hid hxr
  have Hg := Lib.hid hxg
  have Hb := Lib.hid hxb
  clear hxr hxg hxb
  obtain ⟨hc, hf⟩ := bcell hb1
  have hz : w.heap.size + 1 < w1.heap.size := by have := hb1.size; simp at this; omega
  go_wp2_with fail
  refine (wide_any _ _ _ _ _ (by omega) (by omega) (by omega) (by omega) (by omega) (by omega) (by omega) (by omega)).mono ?_
  rintro e w2 ⟨rfl, hb2⟩
  obtain ⟨hc2, hf2⟩ := bcell hb2
  have hz2 : w.heap.size + 1 < w2.heap.size := by have := hb2.size; omega
  have hB : Below w.heap.size w w2 := (((Below.refl _ _).alloc (Nat.le_refl _) _).alloc (by simp) _).trans ((hb1.mono (by simp; omega)).trans (hb2.mono (by omega)))
  go_wp2
  exact bodyPost_ret (v := .agg #[.int .u16 xr, .int .u16 xg, .int .u16 xb, .int .u16 (a * 257)]) (by simp [results, Try.results17, go_sem, hc, hc2, hz]) rfl ⟨by rw [Hr.out, Hg.out, Hb.out], (((hB.setCell (Nat.le_succ _) _).setCell (Nat.le_succ _) _).setCell (Nat.le_succ _) _).setCell (Nat.le_succ _) _⟩
end Go.Proofs.Ytimdoelgahemdaa
