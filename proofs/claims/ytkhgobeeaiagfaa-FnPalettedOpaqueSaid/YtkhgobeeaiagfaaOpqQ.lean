/- Plates, plain: which colors are present; the method Opaque. -/
import Derived.Test.YtkhgobeeaiagfaaSetQ
import Derived.Test.YtkhgobeeaiagfaaPlainSub
import Derived.Deep.OwnRows
namespace Go.Proofs.Ytkhgobeeaiagfaa
open Go.RowKit
set_option linter.unusedVariables false
set_option linter.unusedSimpArgs false

/-- All of the first n. -/
def allN (f : Nat → Bool) : Nat → Bool
  | 0 => true
  | n + 1 => allN f n && f n
theorem allN_iff {f : Nat → Bool} : ∀ {m : Nat}, allN f m = true ↔ ∀ n, n < m → f n = true
  | 0 => ⟨fun _ n h => by omega, fun _ => rfl⟩
  | m + 1 => by
    unfold allN
    rw [Bool.and_eq_true, allN_iff]
    constructor
    · rintro ⟨h1, h2⟩ n hn
      rcases Nat.lt_or_ge n m with h | h
      · exact h1 n h
      · rw [show n = m by omega]; exact h2
    · intro h
      exact ⟨fun n hn => h n (by omega), h m (by omega)⟩
theorem allN_false {f : Nat → Bool} {n m : Nat} (h : n < m) (hf : f n = false) : allN f m = false := by
  cases h' : allN f m with
  | false => rfl
  | true => rw [allN_iff.1 h' n h] at hf; cases hf
/-- The index of a pixel. -/
def pixN (zs : List Int) (s : Int) (i j : Nat) : Nat := (zs.getD ((i : Int) * s + (j : Int)).toNat 0).toNat
def alphaB (ps : List (Int × Int × Int × Int)) (c : Nat) : Bool := decide ((ps.getD c noCol).2.2.2 = 65535)
def rowA (zs : List Int) (ps : List (Int × Int × Int × Int)) (s : Int) (wd i : Nat) : Bool := allN (fun j => alphaB ps (pixN zs s i j)) wd
def allA (zs : List Int) (ps : List (Int × Int × Int × Int)) (s : Int) (wd ht : Nat) : Bool := allN (rowA zs ps s wd) ht
theorem allA_iff {zs : List Int} {ps : List (Int × Int × Int × Int)} {s : Int} {wd ht : Nat} : allA zs ps s wd ht = true ↔ ∀ i j, i < ht → j < wd → alphaB ps (pixN zs s i j) = true := by
  unfold allA rowA
  rw [allN_iff]
  constructor
  · intro h i j hi hj
    exact allN_iff.1 (h i hi) j hj
  · intro h i hi
    exact allN_iff.2 (fun j hj => h i j hi hj)
theorem pres_all {zs : List Int} {ps : List (Int × Int × Int × Int)} {s : Int} {wd ht : Nat} {f : Nat → Bool} (hf : ∀ c, f c = true ↔ ∃ i j, i < ht ∧ j < wd ∧ pixN zs s i j = c) (hk : ∀ i j, i < ht → j < wd → pixN zs s i j < ps.length) :
    allN (fun c => !f c || alphaB ps c) ps.length = allA zs ps s wd ht := by
  rw [Bool.eq_iff_iff, allN_iff, allA_iff]
  constructor
  · intro h i j hi hj
    have h1 := h _ (hk i j hi hj)
    rw [(hf _).2 ⟨i, j, hi, hj, rfl⟩] at h1
    simpa using h1
  · intro h c hc
    cases hfc : f c with
    | false => rfl
    | true =>
      obtain ⟨i, j, hi, hj, rfl⟩ := (hf c).1 hfc
      rw [h i j hi hj]; rfl
theorem succ_mul' (i : Nat) (s : Int) : ((i + 1 : Nat) : Int) * s = (i : Int) * s + s := by
  rw [show ((i + 1 : Nat) : Int) = (i : Int) + 1 from by omega, Int.add_mul, Int.one_mul]
/-- 256 marks. -/
def barr (f : Nat → Bool) : Array Value := ((List.range 256).map fun i => Value.bool (f i)).toArray
def upd (f : Nat → Bool) (c : Nat) : Nat → Bool := fun i => f i || decide (i = c)
theorem barr_zero : Try.zeroCells96 = barr (fun _ => false) := by kernel_rfl
theorem barr_size (f : Nat → Bool) : (barr f).size = 256 := by simp [barr]
theorem barr_get (f : Nat → Bool) {i : Nat} (h : i < 256) : (barr f)[i]? = some (.bool (f i)) := by simp [barr, h]
theorem barr_set (f : Nat → Bool) {c : Nat} (h : c < 256) : (barr f).setIfInBounds c (.bool true) = barr (upd f c) := by
  unfold barr
  rw [List.setIfInBounds_toArray]
  congr 1
  apply List.ext_getElem
  · simp
  · intro i h1 h2
    rw [List.getElem_set]
    simp only [List.getElem_map, List.getElem_range]
    unfold upd
    by_cases e : c = i
    · rw [if_pos e]; subst e; simp
    · rw [if_neg e]
      have e2 : decide (i = c) = false := decide_eq_false (Ne.symm e)
      rw [e2, Bool.or_false]

theorem rgba_any (r g b a : Int) (w : World) (q : 0 ≤ r ∧ r ≤ 65535 ∧ 0 ≤ g ∧ g ≤ 65535 ∧ 0 ≤ b ∧ b ≤ 65535 ∧ 0 ≤ a ∧ a ≤ 65535) :
    Calls Try.prog 84 #[.agg #[.int .u16 r, .int .u16 g, .int .u16 b, .int .u16 a]] w fun e w' => e = .returned (.tuple #[.int .u32 r, .int .u32 g, .int .u32 b, .int .u32 a]) ∧ Below w.heap.size w w' := by
  obtain ⟨q0, q1, q2, q3, q4, q5, q6, q7⟩ := q
  go_enter Try.func84, Try.ntmps84
  go_wp2
  go_quiet (fail)
  go_wp2
  exact bodyPost_ret (v := .tuple #[.int .u32 r, .int .u32 g, .int .u32 b, .int .u32 a]) (by first | (simp [results, Try.results84, go_sem]; done) | (simp [results, Try.results84, go_sem]; omega)) rfl ⟨rfl, below_drewN ((Below.refl _ _).alloc (Nat.le_refl _) _) _⟩

theorem meth_any (r g b a : Int) (w : World) : Sem.run Try.prog (method 236 104 (.agg #[.int .u16 r, .int .u16 g, .int .u16 b, .int .u16 a]) "RGBA") w = .ok (84, .agg #[.int .u16 r, .int .u16 g, .int .u16 b, .int .u16 a]) w := by kernel_rfl
theorem seen_succ {f : Nat → Bool} {P : Nat → Prop} {c0 : Nat} (hf : ∀ c, f c = true ↔ P c) : ∀ c, upd f c0 c = true ↔ (P c ∨ c = c0) := by
  intro c
  unfold upd
  rw [Bool.or_eq_true, hf, decide_eq_true_iff]
set_option maxRecDepth 100000 in
set_option maxHeartbeats 2000000 in
theorem opaqueM (g b : Nat) (x0 y0 x1 y1 s : Int) (A : Option Addr) (c : Nat) (zs : List Int) (B : Option Addr) (k : Nat) (ps : List (Int × Int × Int × Int)) (wd ht : Nat) (w : World) (hg : w.heap[g]? = some (.cells #[.slice (some ⟨b, 0, none⟩) zs.length c, .int .i64 s, .int .i64 x0, .int .i64 y0, .int .i64 x1, .int .i64 y1, .slice B ps.length k] 94 (0, 0)))
    (hr : Hid (Reads w (some ⟨b, 0, none⟩) zs)) (hy : Hid (Bytes zs)) (hl : (zs.length : Int) ≤ 140737488351232) (hc : (zs.length : Int) ≤ c) (hF : Hid (Fits x0 y0 x1 y1 s 1 zs.length)) (hE : Hid (¬ Empt x0 y0 x1 y1))
    (hw : x1 - x0 = wd) (hh : y1 - y0 = ht) (ir : Hid (IReads w B ps)) (pl : (ps.length : Int) ≤ 256) (pok : Hid (∀ p ∈ ps, 0 ≤ p.1 ∧ p.1 ≤ 65535 ∧ 0 ≤ p.2.1 ∧ p.2.1 ≤ 65535 ∧ 0 ≤ p.2.2.1 ∧ p.2.2.1 ≤ 65535 ∧ 0 ≤ p.2.2.2 ∧ p.2.2.2 ≤ 65535)) (hkn : Hid (∀ i j, i < ht → j < wd → pixN zs s i j < ps.length)) :
    Calls Try.prog 46 #[.pointer (some ⟨g, 0, none⟩)] w fun e w' => e = .returned (.bool (allA zs ps s wd ht)) ∧ Below w.heap.size w w' := by
  have hgl : g < w.heap.size := heap_lt hg
  have g0 := row_cell (i := 0) (v := .slice (some ⟨b, 0, none⟩) zs.length c) hg rfl
  have g1 := row_cell (i := 1) (v := .int .i64 s) hg rfl
  have g2 := row_cell (i := 2) (v := .int .i64 x0) hg rfl
  have g3 := row_cell (i := 3) (v := .int .i64 y0) hg rfl
  have g4 := row_cell (i := 4) (v := .int .i64 x1) hg rfl
  have g5 := row_cell (i := 5) (v := .int .i64 y1) hg rfl
  have g6 := row_cell (i := 6) (v := .slice B ps.length k) hg rfl
  clear hg
  obtain ⟨⟨⟨⟨f1, f2⟩, ⟨f3, f4⟩, ⟨f5, f6⟩, ⟨f7, f8⟩⟩, f9, f10, f11, f12, _⟩, ⟨s1, s2⟩, _⟩ := id hF.out
  have hwd : (wd : Int) ≤ 65536 := by omega
  have hht : (ht : Int) ≤ 65536 := by omega
  have HW := Lib.hid hw
  have HH := Lib.hid hh
  obtain ⟨n1, n2⟩ : x0 < x1 ∧ y0 < y1 := by have := hE.out; unfold Empt at this; omega
  clear hw hh f9 f10 f11 f12
  have aw : Below w.heap.size w (w.alloc (.cells Try.zeroCells96 96)) := (Below.refl _ _).alloc (Nat.le_refl _) _
  have HX0 : Hid ((w.alloc (.cells Try.zeroCells96 96)).heap[w.heap.size]? = some (.cells (barr (fun _ => false)) 96 (0, 0))) := by unfold Hid; rw [← barr_zero]; exact heap_alloc_new _ _
  have h0' := cell_kept g0 aw
  have h1' := cell_kept g1 aw
  have h2' := cell_kept g2 aw
  have h3' := cell_kept g3 aw
  have h4' := cell_kept g4 aw
  have h5' := cell_kept g5 aw
  have h6' := cell_kept g6 aw
  go_enter Try.func46, Try.ntmps46
  go_wp2_with fail
  generalize w.alloc (.cells Try.zeroCells96 96) = W0 at *
  refine (dx_any x0 y0 x1 y1 _ (by omega) (by omega)).mono ?_
  rintro e w2 ⟨rfl, hb2⟩
  rw [HW.out]
  replace h0' := cell_kept h0' hb2
  replace h1' := cell_kept h1' hb2
  replace h2' := cell_kept h2' hb2
  replace h3' := cell_kept h3' hb2
  replace h4' := cell_kept h4' hb2
  replace h5' := cell_kept h5' hb2
  replace h6' := cell_kept h6' hb2
  have HB := Lib.hid (aw.trans (hb2.mono aw.size))
  have HX := Lib.hid (heap_kept HX0.out hb2)
  clear aw hb2 HX0
  go_wp2
  have HGS : Hid (∀ W' : World, Below w.heap.size w W' → (W'.cell? ⟨g, 0, none⟩ = some (.slice (some ⟨b, 0, none⟩) zs.length c) ∧ W'.cell? ⟨g, 1, none⟩ = some (.int .i64 s) ∧ W'.cell? ⟨g, 2, none⟩ = some (.int .i64 x0) ∧ W'.cell? ⟨g, 3, none⟩ = some (.int .i64 y0) ∧ W'.cell? ⟨g, 4, none⟩ = some (.int .i64 x1) ∧ W'.cell? ⟨g, 5, none⟩ = some (.int .i64 y1) ∧ W'.cell? ⟨g, 6, none⟩ = some (.slice B ps.length k))) := fun W' h => ⟨cell_kept g0 h, cell_kept g1 h, cell_kept g2 h, cell_kept g3 h, cell_kept g4 h, cell_kept g5 h, cell_kept g6 h⟩
  clear g0 h0' g1 h1' g2 h2' g3 h3' g4 h4' g5 h5' g6 h6'
  go_loopw [4, 5, 6] (fun p r y wr => ∃ (i : Nat) (a d e : Int) (f : Nat → Bool), i ≤ ht ∧ p = .int .i64 a ∧ r = .int .i64 d ∧ y = .int .i64 e ∧ Hid (a = (i : Int) * s) ∧ Hid (d = (i : Int) * s + (wd : Int)) ∧ Hid (e = y0 + i) ∧ Hid (Below w.heap.size w wr) ∧ Hid (wr.heap[w.heap.size]? = some (.cells (barr f) 96 (0, 0))) ∧ Hid (∀ c, f c = true ↔ ∃ i' j', i' < i ∧ j' < wd ∧ pixN zs s i' j' = c)) (fun _ _ y _ => (y1 - intOf y).toNat)
  case atStart => exact ⟨0, 0, (wd : Int), y0, fun _ => false, Nat.zero_le _, rfl, rfl, rfl, show Hid _ from (by unfold Hid; omega), show Hid _ from (by unfold Hid; omega), show Hid _ from (by unfold Hid; omega), HB, HX, show Hid _ from fun c => ⟨fun h => (by cases h), fun ⟨i', j', h, _⟩ => (by omega)⟩⟩
  case round =>
    obtain ⟨i, a, d, e, f, hi, rfl, rfl, rfl, HA, HD, HE, KB, KX, KF⟩ := hrel
    clear HB HX
    obtain ⟨g0, g1, g2, g3, g4, g5, g6⟩ := HGS.out _ KB.out
    have mb := mul_bd (a := (i : Int)) (b := s) (A := 65536) (B := 1099511627776) (by omega) (by omega) (by omega) (by omega)
    obtain ⟨a1, a2, d1, d2, e1, e2⟩ : -72057594037927936 ≤ a ∧ a ≤ 72057594037928000 ∧ -72057594037927936 ≤ d ∧ d ≤ 72057594038452224 ∧ y0 ≤ e ∧ e ≤ y1 := by
      have := HA.out; have := HD.out; have := HE.out; have := HH.out; omega
    clear mb
    by_cases hlt : e < y1
    · have hiT : i < ht := by have := HE.out; have := HH.out; omega
      obtain ⟨ka, rfl, kd, rfl, hka, hkd⟩ : ∃ ka : Nat, a = (ka : Int) ∧ ∃ kd : Nat, d = (kd : Int) ∧ kd = ka + wd ∧ kd ≤ zs.length := by
        have hIa : Insd x0 y0 x1 y1 x0 (y0 + i) := by have := HE.out; unfold Insd; omega
        have hIb : Insd x0 y0 x1 y1 (x1 - 1) (y0 + i) := by have := HE.out; unfold Insd; omega
        obtain ⟨k, hk, hkn⟩ := hF.out.place (z := 1) rfl hIa
        obtain ⟨k', hk', hkn'⟩ := hF.out.place (z := 1) rfl hIb
        rw [show y0 + (i : Int) - y0 = i by omega] at hk hk'
        have := HA.out; have := HD.out; have := HW.out
        exact ⟨k, by omega, k + wd, by omega, rfl, by omega⟩
      have j0 : (0 : Int) ≤ (ka : Int) := by omega
      have j1 : (ka : Int) ≤ (kd : Int) := by omega
      have j2 : (kd : Int) ≤ (c : Int) := by omega
      have j3 : (0 : Int) ≤ (kd : Int) := by omega
      have j4 : kd - ka = wd := by omega
      have j9 : 0 < wd := by have := HW.out; omega
      have j6 : ¬ ka = c := by omega
      have j7 : ¬ c = ka := by omega
      have j8 : ¬ c - ka = 0 := by omega
      have ja : (ka : Int) < (c : Int) := by omega
      go_wp2
      go_loopw [44] (fun q wr => ∃ (j : Nat) (f : Nat → Bool), j ≤ wd ∧ q = .int .i64 j ∧ Hid (Below w.heap.size w wr) ∧ Hid (wr.heap[w.heap.size]? = some (.cells (barr f) 96 (0, 0))) ∧ Hid (∀ c, f c = true ↔ ((∃ i' j', i' < i ∧ j' < wd ∧ pixN zs s i' j' = c) ∨ ∃ j', j' < j ∧ pixN zs s i j' = c))) (fun q _ => wd - (intOf q).toNat)
      case atStart => exact ⟨0, f, Nat.zero_le _, rfl, KB, KX, show Hid _ from fun c => ⟨fun h => Or.inl ((KF.out c).1 h), fun h => (by rcases h with h | ⟨j', h, _⟩; exact (KF.out c).2 h; omega)⟩⟩
      case round =>
        obtain ⟨j, f', hj, rfl, KB', KX', KF'⟩ := hrel
        clear KB KX KF g0 g1 g2 g3 g4 g5 g6
        obtain ⟨g0, g1, g2, g3, g4, g5, g6⟩ := HGS.out _ KB'.out
        by_cases hjl : j < wd
        · have i0 : (0 : Int) ≤ (j : Int) := by omega
          have i1 : (j : Int) < (wd : Int) := by omega
          have q0 := (hr.out.below KB'.out).cell (j := ka + j) (by omega)
          rw [Nat.zero_add] at q0
          have hby := hy.out.get (ka + j)
          obtain ⟨cx, hcx⟩ : ∃ cx : Nat, zs.getD (ka + j) 0 = (cx : Int) := ⟨(zs.getD (ka + j) 0).toNat, by omega⟩
          have HPX : Hid (pixN zs s i j = cx) := by
            unfold Hid pixN
            have := HA.out
            rw [← this, show ((ka : Int) + (j : Int)).toNat = ka + j by omega, hcx, Int.toNat_natCast]
          rw [hcx] at q0 hby
          have hc1 : (0 : Int) ≤ (cx : Int) := by omega
          have hc2 : (cx : Int) < 256 := by omega
          have hc3 : cx < 256 := by omega
          have cc := (cell_of_row wr w.heap.size cx _ _ _ KX'.out).trans (barr_get f' hc3)
          have cf := frozen_of_row wr w.heap.size cx _ _ KX'.out
          have T1 : Hid (Below w.heap.size w (wr.setCell ⟨w.heap.size, cx, none⟩ (.bool true))) := KB'.out.setCell (Nat.le_refl _) _
          have T2 : Hid ((wr.setCell ⟨w.heap.size, cx, none⟩ (.bool true)).heap[w.heap.size]? = some (.cells (barr (upd f' cx)) 96 (0, 0))) := by
            unfold Hid; rw [← barr_set f' hc3]; exact heap_setCell_same _ _ _ _ _ _ KX'.out
          have T3 : Hid (∀ c, upd f' cx c = true ↔ ((∃ i' j', i' < i ∧ j' < wd ∧ pixN zs s i' j' = c) ∨ ∃ j', j' < j + 1 ∧ pixN zs s i j' = c)) := fun c => by
            rw [seen_succ KF'.out c]
            constructor
            · rintro ((h | ⟨j', h1, h2⟩) | h)
              · exact Or.inl h
              · exact Or.inr ⟨j', by omega, h2⟩
              · exact Or.inr ⟨j, by omega, by rw [HPX.out, h]⟩
            · rintro (h | ⟨j', h1, h2⟩)
              · exact Or.inl (Or.inl h)
              · rcases Nat.lt_or_ge j' j with h3 | h3
                · exact Or.inl (Or.inr ⟨j', h3, h2⟩)
                · rw [show j' = j by omega, HPX.out] at h2
                  exact Or.inr h2.symm
          clear hcx hby KB' KX' KF'
          go_wp2
          go_roundw
          case rel => exact ⟨j + 1, upd f' cx, by omega, by go_num, T1, T2, T3⟩
          case measure => simp [intOf]; omega
        · have hjw : ¬ (j : Int) < (wd : Int) := by omega
          have KF2 : Hid (∀ c, f' c = true ↔ ∃ i' j', i' < i + 1 ∧ j' < wd ∧ pixN zs s i' j' = c) := fun c => by
            rw [KF'.out c]
            constructor
            · rintro (⟨i', j', h1, h2, h3⟩ | ⟨j', h1, h2⟩)
              · exact ⟨i', j', by omega, h2, h3⟩
              · exact ⟨i, j', by omega, by omega, h2⟩
            · rintro ⟨i', j', h1, h2, h3⟩
              rcases Nat.lt_or_ge i' i with h4 | h4
              · exact Or.inl ⟨i', j', h4, h2, h3⟩
              · rw [show i' = i by omega] at h3
                exact Or.inr ⟨j', by omega, h3⟩
          clear KF'
          go_wp2
          go_roundw
          case rel => exact ⟨i + 1, (ka : Int) + s, (kd : Int) + s, e + 1, f', by omega, by go_num, by go_num, by go_num, show Hid _ from (by unfold Hid; rw [succ_mul']; have := HA.out; omega), show Hid _ from (by unfold Hid; rw [succ_mul']; have := HD.out; omega), show Hid _ from (by unfold Hid; have := HE.out; omega), KB', KX', KF2⟩
          case measure => simp [intOf]; omega
    · have hit : i = ht := by have := HE.out; have := HH.out; omega
      subst hit
      have HRES := Lib.hid (pres_all KF.out hkn.out)
      clear KF hkn HA HD HE
      have hkk : ¬ (e : Int) < y1 := hlt
      go_wp2
      go_loopw [68] (fun q wr => ∃ (j : Nat), j ≤ ps.length ∧ q = .int .i64 j ∧ Hid (Below w.heap.size w wr) ∧ Hid (wr.heap[w.heap.size]? = some (.cells (barr f) 96 (0, 0))) ∧ Hid (allN (fun c => !f c || alphaB ps c) j = true)) (fun q _ => ps.length - (intOf q).toNat)
      case atStart => exact ⟨0, Nat.zero_le _, rfl, KB, KX, show Hid _ from rfl⟩
      case round =>
        obtain ⟨j, hj, rfl, KB', KX', KA⟩ := hrel
        clear KB KX g0 g1 g2 g3 g4 g5 g6
        by_cases hjl : j < ps.length
        · have i0 : (0 : Int) ≤ (j : Int) := by omega
          have i1 : (j : Int) < (ps.length : Int) := by omega
          have i2 : (j : Int) < 256 := by omega
          have hj3 : j < 256 := by omega
          obtain ⟨bp, rfl, hcell⟩ := ir.out j hjl
          replace hcell := cell_kept hcell KB'.out
          have hmem : ps.getD j noCol ∈ ps := by rw [List.getD_eq_getElem?_getD, List.getElem?_eq_getElem hjl]; exact List.getElem_mem hjl
          have HOK := Lib.hid (pok.out _ hmem)
          have HAL : Hid (alphaB ps j = decide ((ps.getD j noCol).2.2.2 = 65535)) := rfl
          obtain ⟨⟨r, gg, bl, al⟩, hp⟩ : ∃ p, ps.getD j noCol = p := ⟨_, rfl⟩
          rw [hp] at hcell HOK HAL
          clear hp hmem
          have hcell' : wr.cell? ⟨bp, j, none⟩ = some (.iface 104 (.agg #[.int .u16 r, .int .u16 gg, .int .u16 bl, .int .u16 al])) := hcell
          clear hcell
          have cc := (cell_of_row wr w.heap.size j _ _ _ KX'.out).trans (barr_get f hj3)
          cases hfj : f j with
          | false =>
            rw [hfj] at cc
            have KA2 : Hid (allN (fun c => !f c || alphaB ps c) (j + 1) = true) := by unfold Hid; rw [allN, KA.out, hfj]; rfl
            go_wp2
            go_roundw
            case rel => exact ⟨j + 1, by omega, by go_num, KB', KX', KA2⟩
            case measure => simp [intOf]; omega
          | true =>
            rw [hfj] at cc
            have hmt := meth_any r gg bl al
            go_wp2_with fail
            refine (rgba_any r gg bl al _ HOK.out).mono ?_
            rintro e' w3 ⟨rfl, hb3⟩
            have KB3 := Lib.hid (KB'.out.trans (hb3.mono KB'.out.size))
            have KX3 := Lib.hid (heap_kept KX'.out hb3)
            clear hb3 KB' KX' cc hcell'
            by_cases hal : al = 65535
            · subst hal
              have KA2 : Hid (allN (fun c => !f c || alphaB ps c) (j + 1) = true) := by unfold Hid; rw [allN, KA.out, hfj, HAL.out]; rfl
              go_wp2
              go_roundw
              case rel => exact ⟨j + 1, by omega, by go_num, KB3, KX3, KA2⟩
              case measure => simp [intOf]; omega
            · have hz1 : (al == 65535) = false := by simpa using hal
              have hz2 : (al != 65535) = true := by simpa using hal
              have HT : Hid (allA zs ps s wd i = false) := by
                unfold Hid; rw [← HRES.out]
                refine allN_false hjl ?_
                simp only [hfj, HAL.out]
                simp [hal]
              go_wp2
              go_ret
              exact ⟨by rw [HT.out]; rfl, KB3.out⟩
        · have hjw : ¬ (j : Int) < (ps.length : Int) := by omega
          have HT : Hid (allA zs ps s wd i = true) := by unfold Hid; rw [← HRES.out, show ps.length = j by omega]; exact KA.out
          go_wp2
          go_ret
          exact ⟨by rw [HT.out]; rfl, KB'.out⟩

end Go.Proofs.Ytkhgobeeaiagfaa
