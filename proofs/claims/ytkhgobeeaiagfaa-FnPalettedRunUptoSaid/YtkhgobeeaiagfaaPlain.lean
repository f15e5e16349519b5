/- Plain mathematics of rectangles, offsets and bytes: no program in sight. -/
import Derived.WalkKit
import Derived.Lib.Hide
namespace Go.Proofs.Ytkhgobeeaiagfaa
open Go.RowKit
set_option linter.unusedVariables false

/-- Within reach of the origin. -/
def Near (n : Int) : Prop := -1099511627776 ≤ n ∧ n ≤ 1099511627776
def Near4 (x0 y0 x1 y1 : Int) : Prop := Near x0 ∧ Near y0 ∧ Near x1 ∧ Near y1
/-- A rectangle without points. -/
def Empt (x0 y0 x1 y1 : Int) : Prop := x1 ≤ x0 ∨ y1 ≤ y0
/-- A point of a rectangle. -/
def Insd (x0 y0 x1 y1 x y : Int) : Prop := x0 ≤ x ∧ x < x1 ∧ y0 ≤ y ∧ y < y1
/-- A rectangle within reach, well-formed, with at most 65,536 points. -/
def Fair (x0 y0 x1 y1 : Int) : Prop := Near4 x0 y0 x1 y1 ∧ x0 ≤ x1 ∧ y0 ≤ y1 ∧ x1 - x0 ≤ 65536 ∧ y1 - y0 ≤ 65536 ∧ (x1 - x0) * (y1 - y0) ≤ 65536
/-- Where the bytes of a pixel begin. -/
def offs (x0 y0 s sz x y : Int) : Int := (y - y0) * s + (x - x0) * sz
/-- A fair rectangle whose pixels all have their bytes among so many. -/
def Fits (x0 y0 x1 y1 s sz long : Int) : Prop := Fair x0 y0 x1 y1 ∧ Near s ∧ (Empt x0 y0 x1 y1 ∨ (0 ≤ (y1 - 1 - y0) * s ∧ (x1 - 1 - x0) * sz + (y1 - 1 - y0) * s + sz ≤ long))

instance (n : Int) : Decidable (Near n) := by unfold Near; infer_instance
instance (x0 y0 x1 y1 : Int) : Decidable (Near4 x0 y0 x1 y1) := by unfold Near4; infer_instance
instance (x0 y0 x1 y1 : Int) : Decidable (Empt x0 y0 x1 y1) := by unfold Empt; infer_instance
instance (x0 y0 x1 y1 x y : Int) : Decidable (Insd x0 y0 x1 y1 x y) := by unfold Insd; infer_instance
instance (x0 y0 x1 y1 : Int) : Decidable (Fair x0 y0 x1 y1) := by unfold Fair; infer_instance
instance (x0 y0 x1 y1 s sz long : Int) : Decidable (Fits x0 y0 x1 y1 s sz long) := by unfold Fits; infer_instance

/-- Products of a bounded number of rows and a bounded stride. -/
theorem mul_bd {a b A B : Int} (h1 : -A ≤ a) (h2 : a ≤ A) (h3 : -B ≤ b) (h4 : b ≤ B) : -(A * B) ≤ a * b ∧ a * b ≤ A * B := by
  have hA : 0 ≤ A := by omega
  have hB : 0 ≤ B := by omega
  constructor
  · by_cases ha : 0 ≤ a
    · have e1 : a * (-B) ≤ a * b := Int.mul_le_mul_of_nonneg_left h3 ha
      have e2 : a * B ≤ A * B := Int.mul_le_mul_of_nonneg_right h2 hB
      have e3 : a * (-B) = -(a * B) := by rw [Int.mul_neg]
      omega
    · have e1 : (-a) * b ≤ (-a) * B := Int.mul_le_mul_of_nonneg_left h4 (by omega)
      have e2 : (-a) * B ≤ A * B := Int.mul_le_mul_of_nonneg_right (by omega) hB
      have e3 : (-a) * b = -(a * b) := by rw [Int.neg_mul]
      omega
  · by_cases ha : 0 ≤ a
    · have e1 : a * b ≤ a * B := Int.mul_le_mul_of_nonneg_left h4 ha
      have e2 : a * B ≤ A * B := Int.mul_le_mul_of_nonneg_right h2 hB
      omega
    · have e1 : (-a) * (-B) ≤ (-a) * b := Int.mul_le_mul_of_nonneg_left h3 (by omega)
      have e2 : (-a) * B ≤ A * B := Int.mul_le_mul_of_nonneg_right (by omega) hB
      have e3 : (-a) * b = -(a * b) := by rw [Int.neg_mul]
      have e4 : (-a) * (-B) = -((-a) * B) := by rw [Int.mul_neg]
      omega

/-- In an image that fits, the bytes of a pixel are there. -/
theorem Fits.at_ {x0 y0 x1 y1 s sz long x y : Int} (h : Fits x0 y0 x1 y1 s sz long) (hsz : 0 ≤ sz) (hi : Insd x0 y0 x1 y1 x y) : 0 ≤ offs x0 y0 s sz x y ∧ offs x0 y0 s sz x y + sz ≤ long := by
  obtain ⟨hf, hs, hE⟩ := h
  obtain ⟨i1, i2, i3, i4⟩ := hi
  rcases hE with hE | ⟨h1, h2⟩
  · unfold Empt at hE; omega
  · unfold offs
    have hx0 : 0 ≤ (x - x0) * sz := Int.mul_nonneg (by omega) hsz
    have hx1 : (x - x0) * sz ≤ (x1 - 1 - x0) * sz := Int.mul_le_mul_of_nonneg_right (by omega) hsz
    by_cases e : y1 - 1 = y0
    · have : y - y0 = 0 := by omega
      have e2 : y1 - 1 - y0 = 0 := by omega
      rw [this]; rw [e2] at h2
      omega
    · have hpos : 0 ≤ s := by
        by_cases hn : 0 ≤ s
        · exact hn
        · have := Int.mul_neg_of_pos_of_neg (a := y1 - 1 - y0) (b := s) (by omega) (by omega)
          omega
      have hy0 : 0 ≤ (y - y0) * s := Int.mul_nonneg (by omega) hpos
      have hy1 : (y - y0) * s ≤ (y1 - 1 - y0) * s := Int.mul_le_mul_of_nonneg_right (by omega) hpos
      omega

/-- Bounds of the two products, and of the sum, for a point of a fair rectangle. -/
theorem Fits.prods {x0 y0 x1 y1 s sz long x y : Int} (h : Fits x0 y0 x1 y1 s sz long) (hi : Insd x0 y0 x1 y1 x y) : -72057594037927936 ≤ (y - y0) * s ∧ (y - y0) * s ≤ 72057594037927936 := by
  obtain ⟨⟨_, _, _, _, hh, _⟩, ⟨s0, s1⟩, _⟩ := h
  obtain ⟨i1, i2, i3, i4⟩ := hi
  have := mul_bd (a := y - y0) (b := s) (A := 65536) (B := 1099511627776) (by omega) (by omega) (by omega) (by omega)
  omega

/-! ### Memory: bytes that are read -/

/-- The slice at address A reads as the bytes zs (nil only if there are none). -/
def Reads (w : World) (A : Option Addr) (zs : List Int) : Prop :=
  (A = none → zs = []) ∧ ∀ ad, A = some ad → ∀ j, j < zs.length → w.cell? (ad.add j) = some (.int .u8 (zs.getD j 0))
/-- No more bytes than the form lets come in. -/
def Small (zs : List Int) : Prop := zs.length ≤ 140737488351232
/-- All are bytes. -/
def Bytes (zs : List Int) : Prop := ∀ z ∈ zs, 0 ≤ z ∧ z ≤ 255
theorem Bytes.get {zs : List Int} (h : Bytes zs) (j : Nat) : 0 ≤ zs.getD j 0 ∧ zs.getD j 0 ≤ 255 := by
  by_cases hj : j < zs.length
  · rw [List.getD_eq_getElem?_getD, List.getElem?_eq_getElem hj]
    exact h _ (List.getElem_mem hj)
  · rw [List.getD_eq_getElem?_getD, List.getElem?_eq_none (by omega)]
    simp

theorem block_add (a : Addr) (n : Nat) : (a.add n).block = a.block := by unfold Addr.add; split <;> rfl

theorem Reads.below {w w' : World} {A : Option Addr} {zs : List Int} (h : Reads w A zs) (hb : Below w.heap.size w w') : Reads w' A zs := by
  refine ⟨h.1, fun ad e j hj => ?_⟩
  have hc := h.2 ad e j hj
  rw [hb.cell (World.block_lt_of_cell? w _ hc)]
  exact hc
theorem Reads.below' {W w w' : World} {A : Option Addr} {zs : List Int} (h : Reads W A zs) (h0 : W.heap.size ≤ w.heap.size) (hw : Below W.heap.size W w) (hb : Below w.heap.size w w') : Reads w' A zs :=
  h.below (hw.trans (hb.mono h0))

/-- A row of bytes that a call made reads as its bytes. -/
theorem Reads.of_own {w : World} {base e : Nat} {A : Option Addr} {c : Nat} {zs : List Int} (h : w.ownsRow base e 1 (.slice A zs.length c) zs.length (zs.map (Value.int .u8))) : Reads w A zs := by
  rcases h.2 with ⟨hv, hn⟩ | ⟨g, cap, cur, hv, _, hh, hnc, _, hsz, htk⟩
  · injection hv with hA _ _
    refine ⟨fun _ => List.eq_nil_of_length_eq_zero hn, fun ad e j hj => ?_⟩
    omega
  · injection hv with hA _ _
    subst hA
    refine ⟨fun e => (by cases e), fun ad e j hj => ?_⟩
    injection e with e
    subst e
    have h2 := h.cells (g := g) rfl j (.int .u8 (zs.getD j 0)) (by rw [List.getElem?_map, List.getElem?_eq_getElem hj, List.getD_eq_getElem?_getD, List.getElem?_eq_getElem hj]; rfl)
    exact h2

theorem bcell {W w1 : World} (hb : Below W.heap.size W w1) : (∀ b o, b < W.heap.size → w1.cell? ⟨b, o, none⟩ = W.cell? ⟨b, o, none⟩) ∧ (∀ b o, b < W.heap.size → w1.frozen? ⟨b, o, none⟩ = W.frozen? ⟨b, o, none⟩) :=
  ⟨fun b o h => hb.cell (p := ⟨b, o, none⟩) h, fun b o h => hb.frozen (p := ⟨b, o, none⟩) h⟩

/-- What a call that copies bytes hands back: a slice of its own with these bytes. -/
def BytesBack (zs : List Int) (w : World) (e : Ending) (w' : World) : Prop :=
  ∃ (A : Option Addr) (c : Nat), e = .returned (.slice A zs.length c) ∧ w'.ownsRow w.heap.size 5 1 (.slice A zs.length c) zs.length (zs.map (Value.int .u8)) ∧ Below w.heap.size w w'

theorem ownsRow_below {w w' : World} {base e size n : Nat} {v : Value} {xs : List Value} (h : w.ownsRow base e size v n xs) (hb : Below w.heap.size w w') : w'.ownsRow base e size v n xs :=
  h.kept (row := none) ⟨hb.os, hb.tape, hb.output, hb.size, fun k hk _ => hb.block k hk⟩ (by cases h' : v.ownBlock <;> simp)

theorem ownsRow_base {w : World} {base base' e size n : Nat} {v : Value} {xs : List Value} (h : w.ownsRow base' e size v n xs) (hb : base ≤ base') : w.ownsRow base e size v n xs := by
  obtain ⟨h1, h2⟩ := h
  refine ⟨h1, ?_⟩
  rcases h2 with h2 | ⟨g, cap, cur, hv, hg, r⟩
  · exact Or.inl h2
  · exact Or.inr ⟨g, cap, cur, hv, Nat.le_trans hb hg, r⟩

/-- A box of 4 cells, kept over a call that turns nothing that is there. -/
theorem keep4 {w W w' : World} {k : Nat} {v0 v1 v2 v3 : Value} (hb : Below W.heap.size W w') (h : k < W.heap.size ∧ Below w.heap.size w W ∧ W.cell? ⟨k, 0, none⟩ = some v0 ∧ W.cell? ⟨k, 1, none⟩ = some v1 ∧ W.cell? ⟨k, 2, none⟩ = some v2 ∧ W.cell? ⟨k, 3, none⟩ = some v3) :
    k < w'.heap.size ∧ Below w.heap.size w w' ∧ w'.cell? ⟨k, 0, none⟩ = some v0 ∧ w'.cell? ⟨k, 1, none⟩ = some v1 ∧ w'.cell? ⟨k, 2, none⟩ = some v2 ∧ w'.cell? ⟨k, 3, none⟩ = some v3 := by
  obtain ⟨hz, hB, c0, c1, c2, c3⟩ := h
  exact ⟨Nat.lt_of_lt_of_le hz hb.size, hB.trans (hb.mono hB.size), (hb.cell hz).trans c0, (hb.cell hz).trans c1, (hb.cell hz).trans c2, (hb.cell hz).trans c3⟩
/-- A box of 6 cells, kept over a call that turns nothing that is there. -/
theorem keep6 {w W w' : World} {k : Nat} {v0 v1 v2 v3 v4 v5 : Value} (hb : Below W.heap.size W w') (h : k < W.heap.size ∧ Below w.heap.size w W ∧ W.cell? ⟨k, 0, none⟩ = some v0 ∧ W.cell? ⟨k, 1, none⟩ = some v1 ∧ W.cell? ⟨k, 2, none⟩ = some v2 ∧ W.cell? ⟨k, 3, none⟩ = some v3 ∧ W.cell? ⟨k, 4, none⟩ = some v4 ∧ W.cell? ⟨k, 5, none⟩ = some v5) :
    k < w'.heap.size ∧ Below w.heap.size w w' ∧ w'.cell? ⟨k, 0, none⟩ = some v0 ∧ w'.cell? ⟨k, 1, none⟩ = some v1 ∧ w'.cell? ⟨k, 2, none⟩ = some v2 ∧ w'.cell? ⟨k, 3, none⟩ = some v3 ∧ w'.cell? ⟨k, 4, none⟩ = some v4 ∧ w'.cell? ⟨k, 5, none⟩ = some v5 := by
  obtain ⟨hz, hB, c0, c1, c2, c3, c4, c5⟩ := h
  exact ⟨Nat.lt_of_lt_of_le hz hb.size, hB.trans (hb.mono hB.size), (hb.cell hz).trans c0, (hb.cell hz).trans c1, (hb.cell hz).trans c2, (hb.cell hz).trans c3, (hb.cell hz).trans c4, (hb.cell hz).trans c5⟩

theorem keepA4 {w W : World} {o : Obj} {k : Nat} {v0 v1 v2 v3 : Value} (h : k < W.heap.size ∧ Below w.heap.size w W ∧ W.cell? ⟨k, 0, none⟩ = some v0 ∧ W.cell? ⟨k, 1, none⟩ = some v1 ∧ W.cell? ⟨k, 2, none⟩ = some v2 ∧ W.cell? ⟨k, 3, none⟩ = some v3) :
    k < (W.alloc o).heap.size ∧ Below w.heap.size w (W.alloc o) ∧ (W.alloc o).cell? ⟨k, 0, none⟩ = some v0 ∧ (W.alloc o).cell? ⟨k, 1, none⟩ = some v1 ∧ (W.alloc o).cell? ⟨k, 2, none⟩ = some v2 ∧ (W.alloc o).cell? ⟨k, 3, none⟩ = some v3 :=
  keep4 ((Below.refl _ _).alloc (Nat.le_refl _) _) h
theorem keepD4 {w W : World} {k : Nat} {v0 v1 v2 v3 : Value} (h : k < W.heap.size ∧ Below w.heap.size w W ∧ W.cell? ⟨k, 0, none⟩ = some v0 ∧ W.cell? ⟨k, 1, none⟩ = some v1 ∧ W.cell? ⟨k, 2, none⟩ = some v2 ∧ W.cell? ⟨k, 3, none⟩ = some v3) :
    k < W.drew.heap.size ∧ Below w.heap.size w W.drew ∧ W.drew.cell? ⟨k, 0, none⟩ = some v0 ∧ W.drew.cell? ⟨k, 1, none⟩ = some v1 ∧ W.drew.cell? ⟨k, 2, none⟩ = some v2 ∧ W.drew.cell? ⟨k, 3, none⟩ = some v3 :=
  keep4 ((Below.refl _ _).drew) h
theorem keepA6 {w W : World} {o : Obj} {k : Nat} {v0 v1 v2 v3 v4 v5 : Value} (h : k < W.heap.size ∧ Below w.heap.size w W ∧ W.cell? ⟨k, 0, none⟩ = some v0 ∧ W.cell? ⟨k, 1, none⟩ = some v1 ∧ W.cell? ⟨k, 2, none⟩ = some v2 ∧ W.cell? ⟨k, 3, none⟩ = some v3 ∧ W.cell? ⟨k, 4, none⟩ = some v4 ∧ W.cell? ⟨k, 5, none⟩ = some v5) :
    k < (W.alloc o).heap.size ∧ Below w.heap.size w (W.alloc o) ∧ (W.alloc o).cell? ⟨k, 0, none⟩ = some v0 ∧ (W.alloc o).cell? ⟨k, 1, none⟩ = some v1 ∧ (W.alloc o).cell? ⟨k, 2, none⟩ = some v2 ∧ (W.alloc o).cell? ⟨k, 3, none⟩ = some v3 ∧ (W.alloc o).cell? ⟨k, 4, none⟩ = some v4 ∧ (W.alloc o).cell? ⟨k, 5, none⟩ = some v5 :=
  keep6 ((Below.refl _ _).alloc (Nat.le_refl _) _) h
theorem keepD6 {w W : World} {k : Nat} {v0 v1 v2 v3 v4 v5 : Value} (h : k < W.heap.size ∧ Below w.heap.size w W ∧ W.cell? ⟨k, 0, none⟩ = some v0 ∧ W.cell? ⟨k, 1, none⟩ = some v1 ∧ W.cell? ⟨k, 2, none⟩ = some v2 ∧ W.cell? ⟨k, 3, none⟩ = some v3 ∧ W.cell? ⟨k, 4, none⟩ = some v4 ∧ W.cell? ⟨k, 5, none⟩ = some v5) :
    k < W.drew.heap.size ∧ Below w.heap.size w W.drew ∧ W.drew.cell? ⟨k, 0, none⟩ = some v0 ∧ W.drew.cell? ⟨k, 1, none⟩ = some v1 ∧ W.drew.cell? ⟨k, 2, none⟩ = some v2 ∧ W.drew.cell? ⟨k, 3, none⟩ = some v3 ∧ W.drew.cell? ⟨k, 4, none⟩ = some v4 ∧ W.drew.cell? ⟨k, 5, none⟩ = some v5 :=
  keep6 ((Below.refl _ _).drew) h
theorem start4 (w : World) (t : TypeId) (v0 v1 v2 v3 : Value) :
    w.heap.size < (w.alloc (.cells #[v0, v1, v2, v3] t)).heap.size ∧ Below w.heap.size w (w.alloc (.cells #[v0, v1, v2, v3] t)) ∧ (w.alloc (.cells #[v0, v1, v2, v3] t)).cell? ⟨w.heap.size, 0, none⟩ = some v0 ∧ (w.alloc (.cells #[v0, v1, v2, v3] t)).cell? ⟨w.heap.size, 1, none⟩ = some v1 ∧ (w.alloc (.cells #[v0, v1, v2, v3] t)).cell? ⟨w.heap.size, 2, none⟩ = some v2 ∧ (w.alloc (.cells #[v0, v1, v2, v3] t)).cell? ⟨w.heap.size, 3, none⟩ = some v3 :=
  ⟨by simp, (Below.refl _ _).alloc (Nat.le_refl _) _, by simp, by simp, by simp, by simp⟩
theorem start6 (w : World) (t : TypeId) (v0 v1 v2 v3 v4 v5 : Value) :
    w.heap.size < (w.alloc (.cells #[v0, v1, v2, v3, v4, v5] t)).heap.size ∧ Below w.heap.size w (w.alloc (.cells #[v0, v1, v2, v3, v4, v5] t)) ∧ (w.alloc (.cells #[v0, v1, v2, v3, v4, v5] t)).cell? ⟨w.heap.size, 0, none⟩ = some v0 ∧ (w.alloc (.cells #[v0, v1, v2, v3, v4, v5] t)).cell? ⟨w.heap.size, 1, none⟩ = some v1 ∧ (w.alloc (.cells #[v0, v1, v2, v3, v4, v5] t)).cell? ⟨w.heap.size, 2, none⟩ = some v2 ∧ (w.alloc (.cells #[v0, v1, v2, v3, v4, v5] t)).cell? ⟨w.heap.size, 3, none⟩ = some v3 ∧ (w.alloc (.cells #[v0, v1, v2, v3, v4, v5] t)).cell? ⟨w.heap.size, 4, none⟩ = some v4 ∧ (w.alloc (.cells #[v0, v1, v2, v3, v4, v5] t)).cell? ⟨w.heap.size, 5, none⟩ = some v5 :=
  ⟨by simp, (Below.refl _ _).alloc (Nat.le_refl _) _, by simp, by simp, by simp, by simp, by simp, by simp⟩
theorem heldB {w W : World} {k : Nat} {P : Prop} (h : k < W.heap.size ∧ Below w.heap.size w W ∧ P) : Below w.heap.size w W := h.2.1
theorem own_form {w : World} {base e size n : Nat} {v : Value} {xs : List Value} (h : w.ownsRow base e size v n xs) : ∃ A c, v = .slice A n c := by
  rcases h.2 with ⟨rfl, rfl⟩ | ⟨g, cap, cur, rfl, _⟩
  · exact ⟨_, _, rfl⟩
  · exact ⟨_, _, rfl⟩
theorem own_nil {w : World} {base e size n c : Nat} {A : Option Addr} {xs : List Value} (h : w.ownsRow base e size (.slice A n c) n xs) : A = none → c = 0 := by
  intro hA
  rcases h.2 with ⟨hv, _⟩ | ⟨g, cap, cur, hv, _⟩
  · injection hv
  · injection hv with h1; rw [hA] at h1; cases h1
theorem bytes_news {w : World} {ad : Addr} {zs : List Int} (h : Reads w (some ad) zs) : ∀ j u, (zs.map (Value.int .u8))[j]? = some u → w.cell? (ad.add j) = some u := by
  intro j u hu
  rw [List.getElem?_map] at hu
  by_cases hj : j < zs.length
  · have := h.2 ad rfl j hj
    rw [List.getElem?_eq_getElem hj] at hu
    rw [List.getD_eq_getElem?_getD, List.getElem?_eq_getElem hj] at this
    simp at hu
    subst hu
    exact this
  · rw [List.getElem?_eq_none (by omega)] at hu
    simp at hu
theorem bytes_one (zs : List Int) : ∀ u ∈ zs.map (Value.int .u8), u.oneCell' = true := by
  intro u hu
  simp at hu
  obtain ⟨z, _, rfl⟩ := hu
  rfl

end Go.Proofs.Ytkhgobeeaiagfaa
