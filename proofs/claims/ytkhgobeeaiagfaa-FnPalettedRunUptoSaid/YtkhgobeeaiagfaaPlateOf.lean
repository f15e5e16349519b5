/- Plates: ofPaletted. -/
import Derived.Test.YtkhgobeeaiagfaaPlate
namespace Go.Proofs.Ytkhgobeeaiagfaa
open Go.RowKit
set_option linter.unusedVariables false
set_option linter.unusedSimpArgs false

theorem own_blk {w : World} {base e size n g : Nat} {v : Value} {xs : List Value} {cs : Array Value} {t : TypeId} (h : w.ownsRow base e size v n xs) (hg : w.heap[g]? = some (.cells cs t (0, 0))) (hne : e ≠ t) : some g ≠ v.ownBlock := by
  rcases h.2 with ⟨rfl, _⟩ | ⟨g', cap, cur, rfl, _, hh, _⟩
  · simp [Value.ownBlock]
  · intro e0
    have : g = g' := by simpa [Value.ownBlock] using e0
    subst this
    rw [hg] at hh
    injection hh with hh
    injection hh with _ ht
    exact hne ht.symm
theorem own_own {w : World} {b1 e1 s1 n1 b2 e2 s2 n2 : Nat} {v1 v2 : Value} {l1 l2 : List Value} (h1 : w.ownsRow b1 e1 s1 v1 n1 l1) (h2 : w.ownsRow b2 e2 s2 v2 n2 l2) (hne : e1 ≠ e2) : v1.ownBlock = none ∨ v1.ownBlock ≠ v2.ownBlock := by
  rcases h1.2 with ⟨rfl, _⟩ | ⟨g, cap, cur, rfl, _, hh, _⟩
  · left; rfl
  · right
    have h := own_blk h2 hh (fun e => hne e.symm)
    intro e
    exact h (by rw [← e]; rfl)
theorem sets7 {u : World} {X : Nat} {t : TypeId} {a0 a1 a2 a3 a4 a5 a6 b0 b1 b2 b3 b4 b5 b6 : Value} (HZ : u.heap[X]? = some (.cells #[a0, a1, a2, a3, a4, a5, a6] t (0, 0))) : (((((((u.setCell ⟨X, 0, none⟩ b0).setCell ⟨X, 1, none⟩ b1).setCell ⟨X, 2, none⟩ b2).setCell ⟨X, 3, none⟩ b3).setCell ⟨X, 4, none⟩ b4).setCell ⟨X, 5, none⟩ b5).setCell ⟨X, 6, none⟩ b6).heap[X]? = some (.cells #[b0, b1, b2, b3, b4, b5, b6] t (0, 0)) := by
  have h1 := heap_setCell_same _ X 0 _ _ b0 HZ
  have h2 := heap_setCell_same _ X 1 _ _ b1 h1
  have h3 := heap_setCell_same _ X 2 _ _ b2 h2
  have h4 := heap_setCell_same _ X 3 _ _ b3 h3
  have h5 := heap_setCell_same _ X 4 _ _ b4 h4
  have h6 := heap_setCell_same _ X 5 _ _ b5 h5
  have h7 := heap_setCell_same _ X 6 _ _ b6 h6
  simpa only [List.setIfInBounds_toArray, List.set_cons_zero, List.set_cons_succ] using h7
theorem sets7_own {u : World} {X : Nat} {t : TypeId} {cs : Array Value} {b0 b1 b2 b3 b4 b5 b6 : Value} {base e size n : Nat} {v : Value} {xs : List Value} (h : u.ownsRow base e size v n xs) (HZ : u.heap[X]? = some (.cells cs t (0, 0))) (hne : e ≠ t) : (((((((u.setCell ⟨X, 0, none⟩ b0).setCell ⟨X, 1, none⟩ b1).setCell ⟨X, 2, none⟩ b2).setCell ⟨X, 3, none⟩ b3).setCell ⟨X, 4, none⟩ b4).setCell ⟨X, 5, none⟩ b5).setCell ⟨X, 6, none⟩ b6).ownsRow base e size v n xs := by
  have g0 : u.grownBy u (some X) := grown_of (Below.refl _ _)
  have g1 := grown_setCell g0 (p := ⟨X, 0, none⟩) (Or.inl rfl) b0
  have g2 := grown_setCell g1 (p := ⟨X, 1, none⟩) (Or.inl rfl) b1
  have g3 := grown_setCell g2 (p := ⟨X, 2, none⟩) (Or.inl rfl) b2
  have g4 := grown_setCell g3 (p := ⟨X, 3, none⟩) (Or.inl rfl) b3
  have g5 := grown_setCell g4 (p := ⟨X, 4, none⟩) (Or.inl rfl) b4
  have g6 := grown_setCell g5 (p := ⟨X, 5, none⟩) (Or.inl rfl) b5
  have g7 := grown_setCell g6 (p := ⟨X, 6, none⟩) (Or.inl rfl) b6
  exact h.kept g7 (Or.inr (own_blk h HZ hne).symm)
theorem sets7_below {u W : World} {X B : Nat} {b0 b1 b2 b3 b4 b5 b6 : Value} (h : Below B W u) (hX : B ≤ X) : Below B W (((((((u.setCell ⟨X, 0, none⟩ b0).setCell ⟨X, 1, none⟩ b1).setCell ⟨X, 2, none⟩ b2).setCell ⟨X, 3, none⟩ b3).setCell ⟨X, 4, none⟩ b4).setCell ⟨X, 5, none⟩ b5).setCell ⟨X, 6, none⟩ b6) := by
  have h1 := h.setCell (p := ⟨X, 0, none⟩) hX b0
  have h2 := h1.setCell (p := ⟨X, 1, none⟩) hX b1
  have h3 := h2.setCell (p := ⟨X, 2, none⟩) hX b2
  have h4 := h3.setCell (p := ⟨X, 3, none⟩) hX b3
  have h5 := h4.setCell (p := ⟨X, 4, none⟩) hX b4
  have h6 := h5.setCell (p := ⟨X, 5, none⟩) hX b5
  have h7 := h6.setCell (p := ⟨X, 6, none⟩) hX b6
  exact h7
/-- The palette at B holds these colors. -/
def IReads (w : World) (B : Option Addr) (ps : List (Int × Int × Int × Int)) : Prop :=
  ∀ j, j < ps.length → ∃ b, B = some ⟨b, 0, none⟩ ∧ w.cell? ⟨b, j, none⟩ = some (ifcOf (ps.getD j noCol))
theorem IReads.below {w w' : World} {B : Option Addr} {ps : List (Int × Int × Int × Int)} (h : IReads w B ps) (hb : Below w.heap.size w w') : IReads w' B ps := fun j hj => by
  obtain ⟨b, e, hc⟩ := h j hj
  exact ⟨b, e, cell_kept hc hb⟩
theorem IReads.of_own {w : World} {base : Nat} {B : Option Addr} {k : Nat} {ps : List (Int × Int × Int × Int)} (h : IOwn w base B k ps) : IReads w B ps := fun j hj => by
  rcases h.2 with ⟨_, hn⟩ | ⟨g, cap, cur, hv, _⟩
  · omega
  · injection hv with hA _ _
    subst hA
    exact ⟨g, rfl, iown_cell h hj⟩
theorem assertC (v : Value) (w : World) : (Instr.typeAssert (.iface 104 v) 99 104 true).run Try.prog w = .ok (.tuple #[v, .bool true]) w := by kernel_rfl
/-- What a call hands back that makes an image as plain data, with bytes and colors of its own. -/
def PlateData (zs : List Int) (ps : List (Int × Int × Int × Int)) (s x0 y0 x1 y1 : Int) (w : World) (e : Ending) (w' : World) : Prop :=
  ∃ (A : Option Addr) (c : Nat) (B : Option Addr) (k : Nat), e = .returned (.agg #[.int .i64 x0, .int .i64 y0, .int .i64 x1, .int .i64 y1, .int .i64 s, .slice A zs.length c, .slice B ps.length k]) ∧ w'.ownsRow w.heap.size 5 1 (.slice A zs.length c) zs.length (zs.map (Value.int .u8)) ∧ POwn w' w.heap.size B k ps ∧ Below w.heap.size w w'
theorem news_four {w : World} {p : Int × Int × Int × Int} {t : TypeId} : ∀ j u, (colCells p)[j]? = some u → (w.alloc (.cells #[.int .u16 p.1, .int .u16 p.2.1, .int .u16 p.2.2.1, .int .u16 p.2.2.2] t)).cell? ((⟨w.heap.size, 0, none⟩ : Addr).add j) = some u := by
  intro j u hu
  have hj : j < 4 := by
    rcases Nat.lt_or_ge j 4 with h | h
    · exact h
    · rw [List.getElem?_eq_none (by simpa [colCells] using h)] at hu; cases hu
  have h : j = 0 ∨ j = 1 ∨ j = 2 ∨ j = 3 := by omega
  rcases h with rfl | rfl | rfl | rfl <;> (simp [colCells] at hu; subst hu; simp [Addr.add])
theorem col_one (p : Int × Int × Int × Int) : ∀ u ∈ colCells p, u.oneCell' = true := by
  intro u hu
  simp [colCells] at hu
  rcases hu with rfl | rfl | rfl | rfl <;> rfl
theorem kept_set {w : World} {base e size n X i : Nat} {v b : Value} {xs : List Value} {cs : Array Value} {t : TypeId} (h : w.ownsRow base e size v n xs) (hX : w.heap[X]? = some (.cells cs t (0, 0))) (hne : e ≠ t) : (w.setCell ⟨X, i, none⟩ b).ownsRow base e size v n xs :=
  h.kept (grown_setCell (grown_of (Below.refl _ _)) (p := ⟨X, i, none⟩) (Or.inl rfl) b) (Or.inr (own_blk h hX hne).symm)
theorem heap_set_other {w : World} {X Y i : Nat} {b : Value} {o : Obj} (h : w.heap[Y]? = some o) (hne : Y ≠ X) : (w.setCell ⟨X, i, none⟩ b).heap[Y]? = some o := (Below.heap_setCell w ⟨X, i, none⟩ b Y hne).trans h

set_option maxRecDepth 100000 in
set_option maxHeartbeats 2000000 in
theorem of_any (g : Nat) (x0 y0 x1 y1 s : Int) (A : Option Addr) (c : Nat) (zs : List Int) (B : Option Addr) (k : Nat) (ps : List (Int × Int × Int × Int)) (w : World) (hg : w.heap[g]? = some (.cells #[.slice A zs.length c, .int .i64 s, .int .i64 x0, .int .i64 y0, .int .i64 x1, .int .i64 y1, .slice B ps.length k] 94 (0, 0))) (hr : Hid (Reads w A zs)) (hl : Small zs) (hn : Hid (A = none → c = 0)) (ir : Hid (IReads w B ps)) (pl : (ps.length : Int) ≤ 2097152) :
    Calls Try.prog 49 #[.pointer (some ⟨g, 0, none⟩)] w (PlateData zs ps s x0 y0 x1 y1 w) := by
  have hgl : g < w.heap.size := heap_lt hg
  have hB : Below w.heap.size w (w.alloc (.cells #[.int .i64 0, .int .i64 0, .int .i64 0, .int .i64 0, .int .i64 0, .slice none 0 0, .slice none 0 0] 27)) := (Below.refl _ _).alloc (Nat.le_refl _) _
  have g0 := cell_kept (row_cell (i := 0) (v := .slice A zs.length c) hg rfl) hB
  have g1 := cell_kept (row_cell (i := 1) (v := .int .i64 s) hg rfl) hB
  have g2 := cell_kept (row_cell (i := 2) (v := .int .i64 x0) hg rfl) hB
  have g3 := cell_kept (row_cell (i := 3) (v := .int .i64 y0) hg rfl) hB
  have g4 := cell_kept (row_cell (i := 4) (v := .int .i64 x1) hg rfl) hB
  have g5 := cell_kept (row_cell (i := 5) (v := .int .i64 y1) hg rfl) hB
  have g6 := cell_kept (row_cell (i := 6) (v := .slice B ps.length k) hg rfl) hB
  clear hg
  have HZ : Hid ((w.alloc (.cells #[.int .i64 0, .int .i64 0, .int .i64 0, .int .i64 0, .int .i64 0, .slice none 0 0, .slice none 0 0] 27)).heap[w.heap.size]? = some (.cells #[.int .i64 0, .int .i64 0, .int .i64 0, .int .i64 0, .int .i64 0, .slice none 0 0, .slice none 0 0] 27 (0, 0))) := heap_alloc_new w _
  have HR := Lib.hid (hr.out.below hB)
  have HI := Lib.hid (ir.out.below hB)
  have hta := assertC
  have hsz0 := hB.size
  go_enter Try.func49, Try.ntmps49
  go_wp2_with fail
  generalize (w.alloc (.cells #[.int .i64 0, .int .i64 0, .int .i64 0, .int .i64 0, .int .i64 0, .slice none 0 0, .slice none 0 0] 27)) = W0 at *
  have hXW : w.heap.size < W0.heap.size := heap_lt HZ.out
  go_upto_region 1 with fail
  have P0 : Below W0.heap.size W0 W0.drew := (Below.refl _ _).drew
  have P0a : Below W0.heap.size W0 (W0.alloc (.cells #[.int .i64 0, .int .i64 0, .int .i64 0, .int .i64 0, .int .i64 0, .slice none 0 0, .slice none 0 0] 27)).drew := ((Below.refl _ _).alloc (Nat.le_refl _) _).drew
  have toS : ∀ W' : World, Below W0.heap.size W0 W' → (W'.cell? ⟨g, 0, none⟩ = some (.slice A zs.length c) ∧ W'.cell? ⟨g, 1, none⟩ = some (.int .i64 s) ∧ W'.cell? ⟨g, 2, none⟩ = some (.int .i64 x0) ∧ W'.cell? ⟨g, 3, none⟩ = some (.int .i64 y0) ∧ W'.cell? ⟨g, 4, none⟩ = some (.int .i64 x1) ∧ W'.cell? ⟨g, 5, none⟩ = some (.int .i64 y1) ∧ W'.cell? ⟨g, 6, none⟩ = some (.slice B ps.length k)) := fun W' h => ⟨cell_kept g0 h, cell_kept g1 h, cell_kept g2 h, cell_kept g3 h, cell_kept g4 h, cell_kept g5 h, cell_kept g6 h⟩
  have TOS := Lib.hid toS
  clear toS
  go_cut [3] (fun pp  wx => ∃ (bc : Nat) (A1 : Option Addr) (e1 : Nat), pp = .pointer (some ⟨bc, 0, none⟩) ∧ W0.heap.size ≤ bc ∧ Below W0.heap.size W0 wx ∧ wx.heap[bc]? = some (.cells #[.int .i64 x0, .int .i64 y0, .int .i64 x1, .int .i64 y1, .int .i64 s, .slice A1 zs.length e1, .slice none 0 0] 27 (0, 0)) ∧ wx.ownsRow W0.heap.size 5 1 (.slice A1 zs.length e1) zs.length (zs.map (Value.int .u8)))
  case first =>
    go_region_held3 (fun w' => w'.cell? ⟨g, 0, none⟩ = some (.slice A zs.length c) ∧ w'.cell? ⟨g, 1, none⟩ = some (.int .i64 s) ∧ w'.cell? ⟨g, 2, none⟩ = some (.int .i64 x0) ∧ w'.cell? ⟨g, 3, none⟩ = some (.int .i64 y0) ∧ w'.cell? ⟨g, 4, none⟩ = some (.int .i64 x1) ∧ w'.cell? ⟨g, 5, none⟩ = some (.int .i64 y1) ∧ w'.cell? ⟨g, 6, none⟩ = some (.slice B ps.length k))
      ((refine TOS.out _ ?_; first | with_reducible exact P0 | with_reducible exact P0a | with_reducible exact P1 | with_reducible exact P1.alloc P1.size _ | with_reducible exact P2 | with_reducible exact P2.alloc P2.size _ | with_reducible exact sets7_below P2 (Nat.le_refl _) | with_reducible exact sets7_below P2 P1.size))
      (first | (go_at_call 58; refine (rect_any x0 y0 x1 y1 _).mono ?_; rintro e u1 ⟨rfl, hv1⟩; (first | (have P1 : Below W0.heap.size W0 u1 := P0.trans (hv1.mono P0.size); skip) | (have P1 : Below W0.heap.size W0 u1 := P0a.trans (hv1.mono P0a.size); have HZ := Lib.hid (heap_kept (w := (W0.alloc (.cells #[.int .i64 0, .int .i64 0, .int .i64 0, .int .i64 0, .int .i64 0, .slice none 0 0, .slice none 0 0] 27)).drew) (heap_alloc_new W0 (.cells #[.int .i64 0, .int .i64 0, .int .i64 0, .int .i64 0, .int .i64 0, .slice none 0 0, .slice none 0 0] 27)) hv1)))) | (go_at_call 55; refine (bytesOf_any A c zs _ ?_ hl hn.out).mono ?_; (first | exact HR.out.below P1 | exact HR.out.below (P1.alloc P1.size _)); rintro e u2 ⟨A1, e1, rfl, ho1, hv2⟩; have HO1 := Lib.hid (ownsRow_base (base := W0.heap.size) ho1 (by first | exact P1.size | exact (P1.alloc P1.size _).size)); clear ho1; (first | (have P2 : Below W0.heap.size W0 u2 := P1.trans (hv2.mono P1.size); (try (replace HZ := Lib.hid (heap_kept HZ.out hv2)))) | (have P2 : Below W0.heap.size W0 u2 := (P1.alloc P1.size (.cells #[.int .i64 0, .int .i64 0, .int .i64 0, .int .i64 0, .int .i64 0, .slice none 0 0, .slice none 0 0] 27)).trans (hv2.mono (P1.alloc P1.size (.cells #[.int .i64 0, .int .i64 0, .int .i64 0, .int .i64 0, .int .i64 0, .slice none 0 0, .slice none 0 0] 27)).size); have HZ := Lib.hid (heap_kept (w := u1.alloc (.cells #[.int .i64 0, .int .i64 0, .int .i64 0, .int .i64 0, .int .i64 0, .slice none 0 0, .slice none 0 0] 27)) (heap_alloc_new u1 (.cells #[.int .i64 0, .int .i64 0, .int .i64 0, .int .i64 0, .int .i64 0, .slice none 0 0, .slice none 0 0] 27)) hv2))); (first | (have _h := HZ; go_must (have zc0 := row_cell (i := 0) (v := .int .i64 0) HZ.out rfl; have zf0 := frozen_of_row _ _ 0 _ _ HZ.out; have zc1 := row_cell (i := 1) (v := .int .i64 0) HZ.out rfl; have zf1 := frozen_of_row _ _ 1 _ _ HZ.out; have zc2 := row_cell (i := 2) (v := .int .i64 0) HZ.out rfl; have zf2 := frozen_of_row _ _ 2 _ _ HZ.out; have zc3 := row_cell (i := 3) (v := .int .i64 0) HZ.out rfl; have zf3 := frozen_of_row _ _ 3 _ _ HZ.out; have zc4 := row_cell (i := 4) (v := .int .i64 0) HZ.out rfl; have zf4 := frozen_of_row _ _ 4 _ _ HZ.out; have zc5 := row_cell (i := 5) (v := .slice none 0 0) HZ.out rfl; have zf5 := frozen_of_row _ _ 5 _ _ HZ.out; have zc6 := row_cell (i := 6) (v := .slice none 0 0) HZ.out rfl; have zf6 := frozen_of_row _ _ 6 _ _ HZ.out)) | skip)))
    all_goals
      go_wp2_with fail
      go_meet
      first
        | ((with_reducible have _ck : Hid (u2.heap[W0.heap.size]? = some (.cells #[.int .i64 0, .int .i64 0, .int .i64 0, .int .i64 0, .int .i64 0, .slice none 0 0, .slice none 0 0] 27 (0, 0))) := HZ); exact ⟨W0.heap.size, A1, e1, rfl, Nat.le_refl _, sets7_below P2 (Nat.le_refl _), sets7 HZ.out, sets7_own HO1.out HZ.out (by decide)⟩)
        | ((with_reducible have _ck : Hid (u2.heap[u1.heap.size]? = some (.cells #[.int .i64 0, .int .i64 0, .int .i64 0, .int .i64 0, .int .i64 0, .slice none 0 0, .slice none 0 0] 27 (0, 0))) := HZ); exact ⟨u1.heap.size, A1, e1, rfl, P1.size, sets7_below P2 P1.size, sets7 HZ.out, sets7_own HO1.out HZ.out (by decide)⟩)
        | exact ⟨u2.heap.size, A1, e1, rfl, P2.size, P2.alloc P2.size _, heap_alloc_new _ _, HO1.out.alloc _⟩
  case rest =>
    clear TOS P0 P0a
    obtain ⟨bc, A1, e1, rfl, hbc, hBm, HBC, HO1'⟩ := hcut
    replace g0 := cell_kept g0 hBm
    replace g1 := cell_kept g1 hBm
    replace g2 := cell_kept g2 hBm
    replace g3 := cell_kept g3 hBm
    replace g4 := cell_kept g4 hBm
    replace g5 := cell_kept g5 hBm
    replace g6 := cell_kept g6 hBm
    replace HR := Lib.hid (HR.out.below hBm)
    replace HI := Lib.hid (HI.out.below hBm)
    replace HZ := Lib.hid (heap_kept HZ.out hBm)
    replace hB := hB.trans (hBm.mono hB.size)
    have HO1 := Lib.hid (ownsRow_base HO1' hsz0)
    clear HO1'
    have HBC' := Lib.hid HBC
    clear HBC
    have hbX : bc ≠ w.heap.size := by omega
    have hXb : w.heap.size ≤ bc := by omega
    go_wp2
    obtain ⟨i0, hi, hz0, hz1, hz2⟩ := info_parts infoW
    go_loopw [28] (fun i wr => ∃ (j : Nat) (B1 : Option Addr) (k1 : Nat), j ≤ ps.length ∧ i = .int .i64 j ∧ Hid (Below w.heap.size w wr) ∧ Hid (wr.heap[bc]? = some (.cells #[.int .i64 x0, .int .i64 y0, .int .i64 x1, .int .i64 y1, .int .i64 s, .slice A1 zs.length e1, .slice B1 j k1] 27 (0, 0))) ∧ Hid (wr.heap[w.heap.size]? = some (.cells #[.int .i64 0, .int .i64 0, .int .i64 0, .int .i64 0, .int .i64 0, .slice none 0 0, .slice none 0 0] 27 (0, 0))) ∧ Hid (wr.ownsRow w.heap.size 5 1 (.slice A1 zs.length e1) zs.length (zs.map (Value.int .u8))) ∧ Hid (wr.ownsRow w.heap.size 39 4 (.slice B1 j k1) j (rowCells (ps.take j)))) (fun i _ => ps.length - (intOf i).toNat)
    case atStart => exact ⟨0, none, 0, Nat.zero_le _, rfl, hB, HBC', HZ, HO1, World.ownsRow_nil _ _ _ _⟩
    case round =>
      obtain ⟨j, B1, k1, hj, rfl, KB, KC, KZ, KO, KP⟩ := hrel
      clear HBC' HZ HO1 HI hB HR g0 g1 g2 g3 g4 g5 g6
      have hbl : bc < wr.heap.size := heap_lt KC.out
      have hXl : w.heap.size < wr.heap.size := heap_lt KZ.out
      have r6 := row_cell (i := 6) (v := .slice B1 j k1) KC.out rfl
      by_cases hlt : j < ps.length
      · have i0' : (0 : Int) ≤ (j : Int) := by omega
        have i1' : (j : Int) < (ps.length : Int) := by omega
        have HT := Lib.hid (take_getD ps j hlt)
        obtain ⟨b, rfl, hcell⟩ := ir.out j hlt
        obtain ⟨⟨r, gg, bl, al⟩, hp⟩ : ∃ p, ps.getD j noCol = p := ⟨_, rfl⟩
        rw [hp] at hcell HT
        clear hp
        have hcell' : wr.cell? ⟨b, j, none⟩ = some (.iface 104 (.agg #[.int .u16 r, .int .u16 gg, .int .u16 bl, .int .u16 al])) := cell_kept hcell KB.out
        clear hcell
        have hne1 : ¬ bc = wr.heap.size := by omega
        have hne2 : ¬ wr.heap.size = bc := by omega
        have aw : Below wr.heap.size wr ((wr.alloc (.cells #[.int .u16 r, .int .u16 gg, .int .u16 bl, .int .u16 al] 104)).alloc (.cells #[.int .u16 r, .int .u16 gg, .int .u16 bl, .int .u16 al] 39)) := ((Below.refl _ _).alloc (Nat.le_refl _) _).alloc (by simp) _
        have HP2 := Lib.hid (ownsRow_below KP.out aw)
        have HO2 := Lib.hid (ownsRow_below KO.out aw)
        have HC2 := Lib.hid (heap_kept KC.out aw)
        have HZ2 := Lib.hid (heap_kept KZ.out aw)
        have HB2 := Lib.hid (KB.out.trans (aw.mono KB.out.size))
        have H2 : Hid (∀ q u, (colCells (r, gg, bl, al))[q]? = some u → ((wr.alloc (.cells #[.int .u16 r, .int .u16 gg, .int .u16 bl, .int .u16 al] 104)).alloc (.cells #[.int .u16 r, .int .u16 gg, .int .u16 bl, .int .u16 al] 39)).cell? ((⟨wr.heap.size + 1, 0, none⟩ : Addr).add q) = some u) := by
          have h := news_four (w := wr.alloc (.cells #[.int .u16 r, .int .u16 gg, .int .u16 bl, .int .u16 al] 104)) (p := (r, gg, bl, al)) (t := 39)
          rw [show (wr.alloc (.cells #[.int .u16 r, .int .u16 gg, .int .u16 bl, .int .u16 al] 104)).heap.size = wr.heap.size + 1 by simp] at h
          exact h
        have H3 := Lib.hid (col_one (r, gg, bl, al))
        have H4 : Hid (j + 1 ≤ maxLen) := by unfold Hid maxLen; omega
        have H5 : Hid ((j + 1) * 8 ≤ 140737488355328) := by unfold Hid; omega
        clear aw KB KC KZ KO KP
        go_wp2_with (at_builtin; refine wpList_append_own _ rfl _ _ 25 rfl w.heap.size 39 i0 (aggOf noCol) 4 8 Try.underlying25 hi hz0 hz1 hz2 rfl (by decide) (.slice B1 j k1) j (rowCells (ps.take j)) rfl HP2.out ⟨wr.heap.size + 1, 0, none⟩ 1 1 (colCells (r, gg, bl, al)) rfl rfl H2.out H3.out H4.out H5.out HB2.out.size ?_; intro v1 w2 hown hg hnil; obtain ⟨B', k', rfl⟩ := own_form hown; have KC2 := Lib.hid (grown_heap hg HC2.out (own_blk HP2.out HC2.out (by decide))); have zc := row_cell (i := 6) (v := .slice B1 j k1) KC2.out rfl; have zf := frozen_of_row _ _ 6 _ _ KC2.out)
        have KZ2 := Lib.hid (grown_heap hg HZ2.out (own_blk HP2.out HZ2.out (by decide)))
        have KO2 := Lib.hid (HO2.out.kept hg (own_own HO2.out HP2.out (by decide)))
        have KP2 : Hid (w2.ownsRow w.heap.size 39 4 (.slice B' (j + 1) k') (j + 1) (rowCells (ps.take (j + 1)))) := by
          unfold Hid; rw [HT.out, rowCells_append]
          have e : rowCells [(r, gg, bl, al)] = colCells (r, gg, bl, al) := by simp [rowCells]
          rw [e]; exact hown
        have KB2 := Lib.hid (HB2.out.grown hg HB2.out.size (own_blk_ge HP2.out))
        have T1 : Hid (Below w.heap.size w (w2.setCell ⟨bc, 6, none⟩ (.slice B' (j + 1) k'))) := KB2.out.setCell hXb _
        have T2 : Hid ((w2.setCell ⟨bc, 6, none⟩ (.slice B' (j + 1) k')).heap[bc]? = some (.cells #[.int .i64 x0, .int .i64 y0, .int .i64 x1, .int .i64 y1, .int .i64 s, .slice A1 zs.length e1, .slice B' (j + 1) k'] 27 (0, 0))) := by
          have h := heap_setCell_same _ bc 6 _ _ (.slice B' (j + 1) k') KC2.out
          simpa only [Hid, List.setIfInBounds_toArray, List.set_cons_zero, List.set_cons_succ] using h
        have T3 : Hid ((w2.setCell ⟨bc, 6, none⟩ (.slice B' (j + 1) k')).heap[w.heap.size]? = some (.cells #[.int .i64 0, .int .i64 0, .int .i64 0, .int .i64 0, .int .i64 0, .slice none 0 0, .slice none 0 0] 27 (0, 0))) := heap_set_other KZ2.out (Ne.symm hbX)
        have T4 : Hid ((w2.setCell ⟨bc, 6, none⟩ (.slice B' (j + 1) k')).ownsRow w.heap.size 5 1 (.slice A1 zs.length e1) zs.length (zs.map (Value.int .u8))) := kept_set KO2.out KC2.out (by decide)
        have T5 : Hid ((w2.setCell ⟨bc, 6, none⟩ (.slice B' (j + 1) k')).ownsRow w.heap.size 39 4 (.slice B' (j + 1) k') (j + 1) (rowCells (ps.take (j + 1)))) := kept_set KP2.out KC2.out (by decide)
        clear hown hg hnil HP2 HO2 HC2 HZ2 HB2 H2 H3 H4 H5 HT KZ2 KO2 KP2 KB2 KC2
        go_wp2
        go_roundw
        case rel => exact ⟨j + 1, B', k', by omega, by go_num, T1, T2, T3, T4, T5⟩
        case measure => simp [intOf]; omega
      · obtain rfl : j = ps.length := by omega
        have hkk : ¬ (ps.length : Int) < (ps.length : Int) := by omega
        have r0 := row_cell (i := 0) (v := .int .i64 x0) KC.out rfl
        have r1 := row_cell (i := 1) (v := .int .i64 y0) KC.out rfl
        have r2 := row_cell (i := 2) (v := .int .i64 x1) KC.out rfl
        have r3 := row_cell (i := 3) (v := .int .i64 y1) KC.out rfl
        have r4 := row_cell (i := 4) (v := .int .i64 s) KC.out rfl
        have r5 := row_cell (i := 5) (v := .slice A1 zs.length e1) KC.out rfl
        have zc0 := row_cell (i := 0) (v := .int .i64 0) KZ.out rfl
        have zf0 := frozen_of_row _ _ 0 _ _ KZ.out
        have zc1 := row_cell (i := 1) (v := .int .i64 0) KZ.out rfl
        have zf1 := frozen_of_row _ _ 1 _ _ KZ.out
        have zc2 := row_cell (i := 2) (v := .int .i64 0) KZ.out rfl
        have zf2 := frozen_of_row _ _ 2 _ _ KZ.out
        have zc3 := row_cell (i := 3) (v := .int .i64 0) KZ.out rfl
        have zf3 := frozen_of_row _ _ 3 _ _ KZ.out
        have zc4 := row_cell (i := 4) (v := .int .i64 0) KZ.out rfl
        have zf4 := frozen_of_row _ _ 4 _ _ KZ.out
        have zc5 := row_cell (i := 5) (v := .slice none 0 0) KZ.out rfl
        have zf5 := frozen_of_row _ _ 5 _ _ KZ.out
        have zc6 := row_cell (i := 6) (v := .slice none 0 0) KZ.out rfl
        have zf6 := frozen_of_row _ _ 6 _ _ KZ.out
        have KP' : Hid (POwn wr w.heap.size B1 k1 ps) := by
          unfold Hid POwn; have h := KP.out; rw [List.take_length] at h; exact h
        clear KP
        go_wp2_with fail
        clear zc0 zf0 r0 zc1 zf1 r1 zc2 zf2 r2 zc3 zf3 r3 zc4 zf4 r4 zc5 zf5 r5 zc6 zf6 r6
        have HF : Hid ((((((((wr.setCell ⟨w.heap.size, 0, none⟩ (.int .i64 x0)).setCell ⟨w.heap.size, 1, none⟩ (.int .i64 y0)).setCell ⟨w.heap.size, 2, none⟩ (.int .i64 x1)).setCell ⟨w.heap.size, 3, none⟩ (.int .i64 y1)).setCell ⟨w.heap.size, 4, none⟩ (.int .i64 s)).setCell ⟨w.heap.size, 5, none⟩ (.slice A1 zs.length e1)).setCell ⟨w.heap.size, 6, none⟩ (.slice B1 ps.length k1)).heap[w.heap.size]? = some (.cells #[.int .i64 x0, .int .i64 y0, .int .i64 x1, .int .i64 y1, .int .i64 s, .slice A1 zs.length e1, .slice B1 ps.length k1] 27 (0, 0))) := sets7 KZ.out
        have HBx : Below w.heap.size w (((((((wr.setCell ⟨w.heap.size, 0, none⟩ (.int .i64 x0)).setCell ⟨w.heap.size, 1, none⟩ (.int .i64 y0)).setCell ⟨w.heap.size, 2, none⟩ (.int .i64 x1)).setCell ⟨w.heap.size, 3, none⟩ (.int .i64 y1)).setCell ⟨w.heap.size, 4, none⟩ (.int .i64 s)).setCell ⟨w.heap.size, 5, none⟩ (.slice A1 zs.length e1)).setCell ⟨w.heap.size, 6, none⟩ (.slice B1 ps.length k1)) := sets7_below KB.out (Nat.le_refl _)
        have HW1 : Hid ((((((((wr.setCell ⟨w.heap.size, 0, none⟩ (.int .i64 x0)).setCell ⟨w.heap.size, 1, none⟩ (.int .i64 y0)).setCell ⟨w.heap.size, 2, none⟩ (.int .i64 x1)).setCell ⟨w.heap.size, 3, none⟩ (.int .i64 y1)).setCell ⟨w.heap.size, 4, none⟩ (.int .i64 s)).setCell ⟨w.heap.size, 5, none⟩ (.slice A1 zs.length e1)).setCell ⟨w.heap.size, 6, none⟩ (.slice B1 ps.length k1)).ownsRow w.heap.size 5 1 (.slice A1 zs.length e1) zs.length (zs.map (Value.int .u8))) := sets7_own KO.out KZ.out (by decide)
        have HW2 : Hid (POwn (((((((wr.setCell ⟨w.heap.size, 0, none⟩ (.int .i64 x0)).setCell ⟨w.heap.size, 1, none⟩ (.int .i64 y0)).setCell ⟨w.heap.size, 2, none⟩ (.int .i64 x1)).setCell ⟨w.heap.size, 3, none⟩ (.int .i64 y1)).setCell ⟨w.heap.size, 4, none⟩ (.int .i64 s)).setCell ⟨w.heap.size, 5, none⟩ (.slice A1 zs.length e1)).setCell ⟨w.heap.size, 6, none⟩ (.slice B1 ps.length k1)) w.heap.size B1 k1 ps) := sets7_own KP'.out KZ.out (by decide)
        generalize (((((((wr.setCell ⟨w.heap.size, 0, none⟩ (.int .i64 x0)).setCell ⟨w.heap.size, 1, none⟩ (.int .i64 y0)).setCell ⟨w.heap.size, 2, none⟩ (.int .i64 x1)).setCell ⟨w.heap.size, 3, none⟩ (.int .i64 y1)).setCell ⟨w.heap.size, 4, none⟩ (.int .i64 s)).setCell ⟨w.heap.size, 5, none⟩ (.slice A1 zs.length e1)).setCell ⟨w.heap.size, 6, none⟩ (.slice B1 ps.length k1)) = wz at *
        have r0 := row_cell (i := 0) (v := .int .i64 x0) HF.out rfl
        have r1 := row_cell (i := 1) (v := .int .i64 y0) HF.out rfl
        have r2 := row_cell (i := 2) (v := .int .i64 x1) HF.out rfl
        have r3 := row_cell (i := 3) (v := .int .i64 y1) HF.out rfl
        have r4 := row_cell (i := 4) (v := .int .i64 s) HF.out rfl
        have r5 := row_cell (i := 5) (v := .slice A1 zs.length e1) HF.out rfl
        have r6 := row_cell (i := 6) (v := .slice B1 ps.length k1) HF.out rfl
        go_wp2
        exact bodyPost_ret (v := .agg #[.int .i64 x0, .int .i64 y0, .int .i64 x1, .int .i64 y1, .int .i64 s, .slice A1 zs.length e1, .slice B1 ps.length k1]) (by simp [results, Try.results49, go_sem, r0, r1, r2, r3, r4, r5, r6]) rfl ⟨A1, e1, B1, k1, rfl, HW1.out, HW2.out, HBx⟩



end Go.Proofs.Ytkhgobeeaiagfaa
