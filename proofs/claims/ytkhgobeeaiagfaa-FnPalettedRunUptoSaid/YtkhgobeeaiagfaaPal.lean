/- Palettes: colors in memory; deep64, paletteOf. -/
import Derived.Test.YtkhgobeeaiagfaaOf
import Derived.Test.YtkhgobeeaiagfaaCut
import Derived.Deep.RegionHeld3
namespace Go.Proofs.Ytkhgobeeaiagfaa
open Go.RowKit
set_option linter.unusedVariables false
set_option linter.unusedSimpArgs false

/-- A color of four numbers. -/
def colCells (p : Int × Int × Int × Int) : List Value := [.int .u16 p.1, .int .u16 p.2.1, .int .u16 p.2.2.1, .int .u16 p.2.2.2]
def rowCells (ps : List (Int × Int × Int × Int)) : List Value := ps.flatMap colCells
def aggOf (p : Int × Int × Int × Int) : Value := .agg #[.int .u16 p.1, .int .u16 p.2.1, .int .u16 p.2.2.1, .int .u16 p.2.2.2]
def ifcOf (p : Int × Int × Int × Int) : Value := .iface 104 (aggOf p)
def noCol : Int × Int × Int × Int := (0, 0, 0, 0)
theorem rowCells_length (ps : List (Int × Int × Int × Int)) : (rowCells ps).length = ps.length * 4 := by
  induction ps with
  | nil => rfl
  | cons p ps ih => simp [rowCells, colCells, Nat.add_mul] at ih ⊢; omega
theorem rowCells_append (ps qs : List (Int × Int × Int × Int)) : rowCells (ps ++ qs) = rowCells ps ++ rowCells qs := by simp [rowCells]
theorem rowCells_get (ps : List (Int × Int × Int × Int)) (j i : Nat) (hj : j < ps.length) (hi : i < 4) : (rowCells ps)[j * 4 + i]? = (colCells (ps.getD j noCol))[i]? := by
  induction ps generalizing j with
  | nil => simp at hj
  | cons p ps ih =>
    have e : rowCells (p :: ps) = colCells p ++ rowCells ps := by simp [rowCells]
    rw [e]
    cases j with
    | zero =>
      rw [Nat.zero_mul, Nat.zero_add, List.getElem?_append_left (by simp [colCells]; omega)]
      rfl
    | succ j =>
      rw [List.getElem?_append_right (by simp [colCells]; omega)]
      have h := ih j (by simp at hj; omega)
      rw [show (j + 1) * 4 + i - (colCells p).length = j * 4 + i by simp [colCells]; omega, h]
      rfl
theorem take_getD (ps : List (Int × Int × Int × Int)) (j : Nat) (hj : j < ps.length) : ps.take (j + 1) = ps.take j ++ [ps.getD j noCol] := by
  rw [List.take_add_one, List.getD_eq_getElem?_getD, List.getElem?_eq_getElem hj]
  rfl
/-- The slice at B reads as these colors. -/
def PReads (w : World) (B : Option Addr) (ps : List (Int × Int × Int × Int)) : Prop :=
  (B = none → ps = []) ∧ ∀ ad, B = some ad → ∀ j u, (rowCells ps)[j]? = some u → w.cell? (ad.add j) = some u
theorem PReads.below {w w' : World} {B : Option Addr} {ps : List (Int × Int × Int × Int)} (h : PReads w B ps) (hb : Below w.heap.size w w') : PReads w' B ps :=
  ⟨h.1, fun ad e j u hu => cell_kept (h.2 ad e j u hu) hb⟩
theorem PReads.addr {w : World} {B : Option Addr} {ps : List (Int × Int × Int × Int)} (h : PReads w B ps) (hp : 0 < ps.length) : ∃ b o, B = some ⟨b, o, none⟩ := by
  rcases B with _ | ⟨b, o, sp⟩
  · have := h.1 rfl; subst this; simp at hp
  · have h1 := rowCells_get ps 0 0 hp (by omega)
    have h0 := h.2 _ rfl 0 (.int .u16 (ps.getD 0 noCol).1) (by rw [show (0 : Nat) = 0 * 4 + 0 by rfl]; rw [h1]; rfl)
    have hs : sp = none := by simpa [Addr.add] using World.cell?_spot h0
    subst hs
    exact ⟨b, o, rfl⟩
theorem PReads.cell {w : World} {b o : Nat} {ps : List (Int × Int × Int × Int)} (h : PReads w (some ⟨b, o, none⟩) ps) {j : Nat} (hj : j < ps.length) (i : Nat) (u : Value) (hi : (colCells (ps.getD j noCol))[i]? = some u) : w.cell? ⟨b, o + j * 4 + i, none⟩ = some u := by
  have h4 : i < 4 := by
    rcases Nat.lt_or_ge i 4 with h | h
    · exact h
    · rw [List.getElem?_eq_none (by simp [colCells]; omega)] at hi; cases hi
  have h0 := h.2 _ rfl (j * 4 + i) u (by rw [rowCells_get ps j i hj h4]; exact hi)
  rcases Nat.eq_zero_or_pos (j * 4 + i) with e | hp
  · rw [e] at h0
    have e2 : o + j * 4 + i = o := by omega
    rw [e2]
    simpa [Addr.add] using h0
  · have e : (⟨b, o, none⟩ : Addr).add (j * 4 + i) = ⟨b, o + (j * 4 + i), none⟩ := by unfold Addr.add; rw [if_neg (by omega)]
    rw [e, ← Nat.add_assoc] at h0
    exact h0
/-- A row of colors of the call's own. -/
def POwn (w : World) (base : Nat) (B : Option Addr) (k : Nat) (ps : List (Int × Int × Int × Int)) : Prop := w.ownsRow base 39 4 (.slice B ps.length k) ps.length (rowCells ps)
/-- A palette of the call's own. -/
def IOwn (w : World) (base : Nat) (B : Option Addr) (k : Nat) (ps : List (Int × Int × Int × Int)) : Prop := w.ownsRow base 99 1 (.slice B ps.length k) ps.length (ps.map ifcOf)
theorem PReads.of_own {w : World} {base : Nat} {B : Option Addr} {k : Nat} {ps : List (Int × Int × Int × Int)} (h : POwn w base B k ps) : PReads w B ps := by
  rcases h.2 with ⟨hv, hn⟩ | ⟨g, cap, cur, hv, _⟩
  · injection hv with hA _ _
    have e : ps = [] := List.eq_nil_of_length_eq_zero hn
    subst e
    exact ⟨fun _ => rfl, fun ad e j u hu => by simp [rowCells] at hu⟩
  · injection hv with hA _ _
    subst hA
    refine ⟨fun e => (by cases e), fun ad e j u hu => ?_⟩
    injection e with e
    subst e
    exact World.ownsRow.cells h (g := g) rfl j u hu
theorem iown_cell {w : World} {base g k j : Nat} {ps : List (Int × Int × Int × Int)} (h : IOwn w base (some ⟨g, 0, none⟩) k ps) (hj : j < ps.length) : w.cell? ⟨g, j, none⟩ = some (ifcOf (ps.getD j noCol)) := by
  have h0 := World.ownsRow.cells h (g := g) rfl j (ifcOf (ps.getD j noCol)) (by rw [List.getElem?_map, List.getElem?_eq_getElem hj, List.getD_eq_getElem?_getD, List.getElem?_eq_getElem hj]; rfl)
  rcases Nat.eq_zero_or_pos j with rfl | hp
  · simpa [Addr.add] using h0
  · have e : (⟨g, 0, none⟩ : Addr).add j = ⟨g, j, none⟩ := by unfold Addr.add; rw [if_neg (by omega)]; simp
    rw [e] at h0
    exact h0
theorem infoC : (Try.prog.info? 99).map (fun i => (i.zero, i.size, i.bytes)) = some (some .nilIface, 1, 16) := by kernel_rfl
theorem infoW : (Try.prog.info? 39).map (fun i => (i.zero, i.size, i.bytes)) = some (some (aggOf noCol), 4, 8) := by kernel_rfl
theorem own_blk_ge {w : World} {base e size n : Nat} {v : Value} {xs : List Value} (h : w.ownsRow base e size v n xs) : ∀ k, v.ownBlock = some k → base ≤ k := fun k hk => (h.lt k hk).1

theorem news_one {w : World} {v : Value} {t : TypeId} : ∀ j u, [v][j]? = some u → (w.alloc (.cells #[v] t)).cell? ((⟨w.heap.size, 0, none⟩ : Addr).add j) = some u := by
  intro j u hu
  cases j with
  | zero => simp at hu; subst hu; simp [Addr.add]
  | succ j => simp at hu
theorem deep64_any (r g b a : Int) (w : World) :
    Calls Try.prog 60 #[.agg #[.int .u16 r, .int .u16 g, .int .u16 b, .int .u16 a]] w fun e w' => e = .returned (.agg #[.int .u16 r, .int .u16 g, .int .u16 b, .int .u16 a]) ∧ Below w.heap.size w w' := by
  go_enter Try.func60, Try.ntmps60
  go_wp2
  exact bodyPost_ret (v := .agg #[.int .u16 r, .int .u16 g, .int .u16 b, .int .u16 a]) (by simp [results, Try.results60, go_sem]) rfl ⟨rfl, ((Below.refl _ _).alloc (Nat.le_refl _) _).alloc (by simp) _⟩

set_option maxRecDepth 100000 in
set_option maxHeartbeats 2000000 in
theorem paletteOf_some (b o k : Nat) (ps : List (Int × Int × Int × Int)) (w : World) (hr : Hid (PReads w (some ⟨b, o, none⟩) ps)) (hl : (ps.length : Int) ≤ 2097152) :
    Calls Try.prog 52 #[.slice (some ⟨b, o, none⟩) ps.length k] w fun e w' => ∃ (B : Option Addr) (c : Nat), e = .returned (.slice B ps.length c) ∧ IOwn w' w.heap.size B c ps ∧ Below w.heap.size w w' := by
  obtain ⟨i0, hi, hz0, hz1, hz2⟩ := info_parts infoC
  go_enter Try.func52, Try.ntmps52
  go_wp2
  go_loopw [3, 8] (fun v i wr => ∃ (j : Nat) (B : Option Addr) (c : Nat), j ≤ ps.length ∧ i = .int .i64 j ∧ v = .slice B j c ∧ Hid (wr.ownsRow w.heap.size 99 1 (.slice B j c) j ((ps.take j).map ifcOf)) ∧ Hid (Below w.heap.size w wr)) (fun _ i _ => ps.length - (intOf i).toNat)
  case atStart => exact ⟨0, none, 0, Nat.zero_le _, rfl, rfl, World.ownsRow_nil _ _ _ _, Below.refl _ _⟩
  case round =>
    obtain ⟨j, B, c, hj, rfl, rfl, HO, HB⟩ := hrel
    by_cases hlt : j < ps.length
    · have i0' : (0 : Int) ≤ (j : Int) := by omega
      have i1' : (j : Int) < (ps.length : Int) := by omega
      have HR := Lib.hid (hr.out.below HB.out)
      have c0 := HR.out.cell hlt 0 _ rfl
      have c1 := HR.out.cell hlt 1 _ rfl
      have c2 := HR.out.cell hlt 2 _ rfl
      have c3 := HR.out.cell hlt 3 _ rfl
      have HT := Lib.hid (take_getD ps j hlt)
      obtain ⟨⟨r, g, bl, al⟩, hp⟩ : ∃ p, ps.getD j noCol = p := ⟨_, rfl⟩
      rw [hp] at c0 c1 c2 c3 HT
      rw [Nat.add_zero] at c0
      clear hp HR
      dsimp only at c0 c1 c2 c3
      go_wp2_with fail
      refine (deep64_any r g bl al _).mono ?_
      rintro e w1 ⟨rfl, hb1⟩
      have hBr : Below wr.heap.size wr w1 := ((Below.refl _ _).alloc (Nat.le_refl _) _).trans (hb1.mono (by simp))
      have HO1 := Lib.hid ((ownsRow_below HO.out hBr).alloc (.cells #[ifcOf (r, g, bl, al)] 99))
      have HB1 := Lib.hid (HB.out.trans (hBr.mono HB.out.size))
      have H2 := Lib.hid (news_one (w := w1) (v := ifcOf (r, g, bl, al)) (t := 99))
      have H3 : Hid (∀ u ∈ [ifcOf (r, g, bl, al)], u.oneCell' = true) := fun u hu => by simp at hu; subst hu; rfl
      have H4 : Hid (j + 1 ≤ maxLen) := by unfold Hid maxLen; omega
      have H5 : Hid ((j + 1) * 16 ≤ 140737488355328) := by unfold Hid; omega
      have H6 : Hid (w.heap.size ≤ (w1.alloc (.cells #[ifcOf (r, g, bl, al)] 99)).heap.size) := by unfold Hid; have := HB1.out.size; simp; omega
      clear hb1 hBr HO HB c0 c1 c2 c3
      go_wp2_with (at_builtin; refine wpList_append_own _ rfl _ _ 85 rfl w.heap.size 99 i0 .nilIface 1 16 Try.underlying85 hi hz0 hz1 hz2 rfl (by decide) (.slice B j c) j ((ps.take j).map ifcOf) rfl HO1.out ⟨w1.heap.size, 0, none⟩ 1 1 [ifcOf (r, g, bl, al)] rfl rfl H2.out H3.out H4.out H5.out H6.out ?_; intro v1 w2 hown hg hnil)
      obtain ⟨B', c', rfl⟩ := own_form hown
      have HO' : Hid (w2.ownsRow w.heap.size 99 1 (.slice B' (j + 1) c') (j + 1) ((ps.take (j + 1)).map ifcOf)) := by
        unfold Hid; rw [HT.out, List.map_append]; exact hown
      have HB' : Hid (Below w.heap.size w w2) := (HB1.out.alloc HB1.out.size _).grown hg (by have := HB1.out.size; simp; omega) (own_blk_ge HO1.out)
      clear hown hg hnil HO1 HB1 H2 H3 H4 H5 H6 HT
      go_wp2
      go_roundw
      case rel => exact ⟨j + 1, B', c', by omega, by go_num, by simp, HO', HB'⟩
      case measure => simp [intOf]; omega
    · obtain rfl : j = ps.length := by omega
      have hkk : ¬ (ps.length : Int) < (ps.length : Int) := by omega
      have HO' : Hid (IOwn wr w.heap.size B c ps) := by
        unfold Hid IOwn; have h := HO.out; rw [List.take_length] at h; exact h
      clear HO
      go_wp2
      go_ret
      exact ⟨B, c, rfl, HO'.out, HB.out⟩
theorem paletteOf_none (B : Option Addr) (k : Nat) (w : World) :
    Calls Try.prog 52 #[.slice B 0 k] w fun e w' => e = .returned (.slice none 0 0) ∧ Below w.heap.size w w' := by
  go_enter Try.func52, Try.ntmps52
  go_wp2
  go_loop [3, 8] (fun v i => v = .slice none 0 0 ∧ i = .int .i64 0) (fun _ _ => 0)
  case atStart => exact ⟨rfl, rfl⟩
  case round =>
    obtain ⟨rfl, rfl⟩ := hrel
    go_wp2
    go_ret
    exact ⟨rfl, Below.refl _ _⟩
/-- What a call that converts colors hands back: a palette of its own. -/
def PalBack (ps : List (Int × Int × Int × Int)) (w : World) (e : Ending) (w' : World) : Prop :=
  ∃ (B : Option Addr) (c : Nat), e = .returned (.slice B ps.length c) ∧ IOwn w' w.heap.size B c ps ∧ Below w.heap.size w w'
theorem paletteOf_any (B : Option Addr) (k : Nat) (ps : List (Int × Int × Int × Int)) (w : World) (hr : PReads w B ps) (hl : (ps.length : Int) ≤ 2097152) :
    Calls Try.prog 52 #[.slice B ps.length k] w (PalBack ps w) := by
  rcases Nat.eq_zero_or_pos ps.length with h0 | hp
  · obtain rfl : ps = [] := List.eq_nil_of_length_eq_zero h0
    exact (paletteOf_none B k w).mono fun e w' ⟨he, hb⟩ => ⟨none, 0, he, World.ownsRow_nil _ _ _ _, hb⟩
  · obtain ⟨b, o, rfl⟩ := hr.addr hp
    exact paletteOf_some b o k ps w hr hl


end Go.Proofs.Ytkhgobeeaiagfaa
