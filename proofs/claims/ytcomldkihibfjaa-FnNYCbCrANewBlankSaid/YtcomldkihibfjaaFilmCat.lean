/- slices.Grow of nil, slices.Concat; ContainsFunc over bytes that are all zero. -/
import Derived.Test.YtcomldkihibfjaaFilmINew
import Derived.Lib.AppendZeros
import Derived.Laws.AppendOwnNone
namespace Go.Proofs.Ytcomldkihibfjaa
open Go.RowKit
set_option linter.unusedVariables false
set_option linter.unusedSimpArgs false

theorem own_block_ge {w : World} {base e size n : Nat} {v : Value} {xs : List Value} (h : w.ownsRow base e size v n xs) {k : Nat} (hk : v.ownBlock = some k) : base ≤ k := by
  rcases h.2 with ⟨rfl, _⟩ | ⟨g, cap, cur, rfl, hg, _⟩
  · simp [Value.ownBlock] at hk
  · simp [Value.ownBlock] at hk; omega
theorem own_zero {W : World} {base g cap : Nat} {cs : Array Value} (hb : base ≤ g) (h : W.heap[g]? = some (.cells cs 5 (0, 0))) (hs : cs.size = cap) (hm : cap ≤ maxLen) : W.ownsRow base 5 1 (.slice (some ⟨g, 0, none⟩) 0 cap) 0 [] :=
  ⟨rfl, Or.inr ⟨g, cap, cs, rfl, hb, h, Nat.zero_le _, hm, by omega, by simp⟩⟩
set_option maxRecDepth 100000 in
set_option maxHeartbeats 2000000 in
theorem grow_nil (n : Nat) (w : World) (hn : (n : Int) ≤ 2097152) :
    Calls Try.prog 41 #[.slice none 0 0, .int .i64 n] w fun e w' => ∃ (A : Option Addr) (c : Nat), e = .returned (.slice A 0 c) ∧ w'.ownsRow w.heap.size 5 1 (.slice A 0 c) 0 [] ∧ Below w.heap.size w w' := by
  rcases Nat.eq_zero_or_pos n with rfl | hp
  · go_enter Try.func41, Try.ntmps41
    go_wp2
    go_ret
    exact ⟨none, 0, by simp, World.ownsRow_nil _ _ _ _, Below.refl _ _⟩
  · obtain ⟨i0, hi, hz0, hz1, hz2⟩ := info_parts info5
    have h := fun ty => Lib.run_append_nil_zeros (P := Try.prog) w 28 3 ty 5 i0 (.int .u8 0) .i64 .i64 Try.underlying28 Try.underlying3 hi hz0 n hp (by omega) (by omega) (by rw [hz2]; omega)
    have hge := grownCap_ge w n 0 5
    have hle := grownCap_le_maxLen w n 0 5 (by unfold maxLen; omega)
    have hsz : (Builtin.zeroCells (Value.int .u8 0).cells n ++ Builtin.zeroCells (Value.int .u8 0).cells (grownCap w n 0 5 - n)).size = grownCap w n 0 5 := by
      rw [Array.size_append, size_zeroCells, size_zeroCells]
      simp [Value.cells]
      omega
    generalize grownCap w n 0 5 = cap at *
    generalize Builtin.zeroCells (Value.int .u8 0).cells n ++ Builtin.zeroCells (Value.int .u8 0).cells (cap - n) = cs at *
    have H := Lib.hid h
    have HS := Lib.hid hsz
    have HL := Lib.hid hle
    have hcp : ¬ cap = 0 := by omega
    have hp' : (0 : Int) < n := by omega
    clear h hsz hle hge
    go_enter Try.func41, Try.ntmps41
    go_wp2_with (at_builtin; refine Lib.wpList_append_run _ rfl _ _ _ _ rfl _ _ rfl rfl _ _ (H.out _) ?_)
    go_wp2
    go_ret
    refine ⟨some ⟨w.heap.size, 0, none⟩, cap, by simp, own_zero (Nat.le_refl _) (heap_alloc_new w.drew _) HS.out HL.out, ((Below.refl _ _).drew).alloc (Nat.le_refl _) _⟩

/-- The first so many parts, one behind the other. -/
def cat (ZZ : Nat → List Int) : Nat → List Int
  | 0 => []
  | k + 1 => cat ZZ k ++ ZZ k
theorem cat_le (ZZ : Nat → List Int) {k m : Nat} (h : k ≤ m) : (cat ZZ k).length ≤ (cat ZZ m).length := by
  induction h with
  | refl => exact Nat.le_refl _
  | step _ ih => simp [cat]; omega
theorem cat_succ (ZZ : Nat → List Int) (k : Nat) : (cat ZZ (k + 1)).length = (cat ZZ k).length + (ZZ k).length := by simp [cat]

set_option maxRecDepth 100000 in
set_option maxHeartbeats 2000000 in
theorem concat_any (bq m : Nat) (AA : Nat → Option Addr) (KK : Nat → Nat) (ZZ : Nat → List Int) (w : World) (hm : (m : Int) ≤ 16)
    (hq : Hid (∀ k, k < m → w.cell? ⟨bq, k, none⟩ = some (.slice (AA k) (ZZ k).length (KK k)) ∧ Reads w (AA k) (ZZ k) ∧ (AA k = none → KK k = 0))) (hl : Hid ((cat ZZ m).length ≤ 2097152)) :
    Calls Try.prog 25 #[.slice (some ⟨bq, 0, none⟩) m m] w fun e w' => ∃ (A : Option Addr) (c : Nat), e = .returned (.slice A (cat ZZ m).length c) ∧ w'.ownsRow w.heap.size 5 1 (.slice A (cat ZZ m).length c) (cat ZZ m).length ((cat ZZ m).map (Value.int .u8)) ∧ Below w.heap.size w w' := by
  go_enter Try.func25, Try.ntmps25
  go_wp2
  go_loop [3, 11] (fun sz i => ∃ (k n : Nat), k ≤ m ∧ i = .int .i64 k ∧ sz = .int .i64 n ∧ Hid (n = (cat ZZ k).length)) (fun _ i => m - (intOf i).toNat)
  case atStart => exact ⟨0, 0, Nat.zero_le _, rfl, rfl, show Hid _ from rfl⟩
  case round =>
    obtain ⟨k, n, hk, rfl, rfl, HN⟩ := hrel
    by_cases hlt : k < m
    · have hcell := (hq.out k hlt).1
      have i0 : (0 : Int) ≤ (k : Int) := by omega
      have i1 : (k : Int) < (m : Int) := by omega
      have HS := Lib.hid (cat_succ ZZ k)
      have HL2 := Lib.hid (cat_le ZZ (show k + 1 ≤ m from hlt))
      generalize hzl : (ZZ k).length = nz at hcell HS
      have hb1 : (n : Int) + (nz : Int) ≤ 2097152 := by have := HN.out; have := HS.out; have := HL2.out; have := hl.out; omega
      have hb2 : ¬ (n : Int) + (nz : Int) < 0 := by omega
      go_wp2
      go_round
      case rel => exact ⟨k + 1, n + nz, by omega, by go_num, by go_num, show Hid _ from (by unfold Hid; have := HN.out; have := HS.out; omega)⟩
      case measure => simp [intOf]; omega
    · have hkm : k = m := by omega
      subst hkm
      have hnb : (n : Int) ≤ 2097152 := by have := HN.out; have := hl.out; omega
      have hkk : ¬ (k : Int) < (k : Int) := by omega
      go_wp2_with fail
      refine (grow_nil n _ hnb).mono ?_
      rintro e w1 ⟨A0, c0, rfl, hown0, hb0⟩
      have HO0 := Lib.hid hown0
      have HB0 := Lib.hid hb0
      clear hown0 hb0
      obtain ⟨i0, hi, hz0, hz1, hz2⟩ := info_parts info5
      go_wp2
      go_loopw [6, 27] (fun v i wr => ∃ (j : Nat) (A : Option Addr) (c : Nat) (zs : List Int), j ≤ k ∧ i = .int .i64 j ∧ v = .slice A zs.length c ∧ Hid (zs = cat ZZ j) ∧ Hid (wr.ownsRow w.heap.size 5 1 (.slice A zs.length c) zs.length (zs.map (Value.int .u8))) ∧ Hid (Below w.heap.size w wr)) (fun _ i _ => k - (intOf i).toNat)
      case atStart => exact ⟨0, A0, c0, [], Nat.zero_le _, rfl, rfl, show Hid _ from rfl, show Hid _ from HO0.out, HB0⟩
      case round =>
        obtain ⟨j, A, c, zs, hj, rfl, rfl, HZ, HO, HB⟩ := hrel
        clear HO0 HB0
        by_cases hjl : j < k
        · obtain ⟨hcell', hrd', hnn'⟩ := hq.out j hjl
          have hcell := cell_kept hcell' HB.out
          have HRD := Lib.hid (hrd'.below HB.out)
          have HNN := Lib.hid hnn'
          clear hcell' hrd' hnn'
          have i0' : (0 : Int) ≤ (j : Int) := by omega
          have i1' : (j : Int) < (k : Int) := by omega
          have HS := Lib.hid (cat_succ ZZ j)
          have HL2 := Lib.hid (cat_le ZZ (show j + 1 ≤ k from hjl))
          obtain ⟨zz, hzz⟩ : ∃ z, ZZ j = z := ⟨_, rfl⟩
          obtain ⟨aa, haa⟩ : ∃ z, AA j = z := ⟨_, rfl⟩
          obtain ⟨kk, hkk'⟩ : ∃ z, KK j = z := ⟨_, rfl⟩
          have HC : Hid (cat ZZ (j + 1) = zs ++ zz) := by unfold Hid; rw [cat, HZ.out, hzz]
          rw [hzz, haa, hkk'] at hcell
          rw [hzz, haa] at HRD
          rw [haa, hkk'] at HNN
          rw [hzz] at HS
          clear hzz haa hkk'
          rcases aa with _ | ad
          · have e0 : zz = [] := HRD.out.1 rfl
            have e1 : kk = 0 := HNN.out rfl
            subst e0 e1
            go_wp2_with (at_builtin; refine wpList_append_own_none rfl _ _ 28 rfl w.heap.size 5 i0 1 Try.underlying28 hi _ zs.length (zs.map (Value.int .u8)) rfl HO.out rfl ?_)
            go_wp2
            go_roundw
            case rel => exact ⟨j + 1, A, c, zs, by omega, by go_num, rfl, show Hid _ from (by unfold Hid; rw [HC.out, List.append_nil]), HO, HB⟩
            case measure => simp [intOf]; omega
          · have H1 := Lib.hid (bytes_news HRD.out)
            have H2 := Lib.hid (bytes_one zz)
            have hsum : zs.length + zz.length ≤ 2097152 := by have := congrArg List.length HZ.out; have := HS.out; have := HL2.out; have := hl.out; omega
            have H3 : Hid (zs.length + zz.length ≤ maxLen) := by unfold Hid maxLen; omega
            have H4 : Hid ((zs.length + zz.length) * 1 ≤ 140737488355328) := by unfold Hid; omega
            go_wp2_with (at_builtin; refine wpList_append_own _ rfl _ _ 28 rfl w.heap.size 5 i0 (.int .u8 0) 1 1 Try.underlying28 hi hz0 hz1 hz2 rfl (by decide) (.slice A zs.length c) zs.length (zs.map (Value.int .u8)) rfl HO.out ad zz.length kk (zz.map (Value.int .u8)) rfl (by simp) H1.out H2.out H3.out H4.out HB.out.size ?_; intro v1 w1' hown hg hnil)
            have hown' : w1'.ownsRow w.heap.size 5 1 v1 (zs ++ zz).length ((zs ++ zz).map (Value.int .u8)) := by
              rw [List.length_append, List.map_append]; exact hown
            obtain ⟨A', c', rfl⟩ := own_form hown'
            have HO' := Lib.hid hown'
            have HB' : Hid (Below w.heap.size w w1') := HB.out.grown hg HB.out.size (by intro g hg'; exact own_block_ge HO.out hg')
            clear hown hown' hg hnil HO HB
            go_wp2
            go_roundw
            case rel => exact ⟨j + 1, A', c', zs ++ zz, by omega, by go_num, by simp, show Hid _ from HC.out.symm, HO', HB'⟩
            case measure => simp [intOf]; omega
        · have hjk : j = k := by omega
          subst hjk
          have hjj : ¬ (j : Int) < (j : Int) := by omega
          go_wp2
          go_ret
          have e := HZ.out
          subst e
          exact ⟨A, c, rfl, HO.out, HB.out⟩


end Go.Proofs.Ytcomldkihibfjaa
