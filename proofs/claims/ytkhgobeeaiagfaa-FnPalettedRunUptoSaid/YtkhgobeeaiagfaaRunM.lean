/- What a script's run holds in memory: the bytes, the row of pointers, the images. -/
import Derived.Test.YtkhgobeeaiagfaaRunP
import Derived.Test.YtkhgobeeaiagfaaSubQ
import Derived.Test.YtkhgobeeaiagfaaCut
import Derived.Deep.AppendLies
import Derived.Laws.OwnMore
namespace Go.Proofs.Ytkhgobeeaiagfaa
open Go.RowKit
set_option linter.unusedVariables false

def addrOf (A : Option Addr) (k : Nat) : Option Addr := A.map fun a => ⟨a.block, a.off + k, none⟩
/-- The header of image i of a run. -/
def imgV (vp : Value) (A : Option Addr) (L C : Nat) (s : Int) (i : Nat) (v : ViewD) : Array Value :=
  if i = 0 ∨ v.on = true then #[.slice (addrOf A v.base) (L - v.base) (C - v.base), .int .i64 s, .int .i64 v.x0, .int .i64 v.y0, .int .i64 v.x1, .int .i64 v.y1, vp]
  else #[.slice none 0 0, .int .i64 0, .int .i64 0, .int .i64 0, .int .i64 0, .int .i64 0, vp]
def ptrV (g : Nat) : Value := .pointer (some ⟨g, 0, none⟩)
/-- All that a run holds. -/
structure RunInv (w : World) (Q : Option Addr) (kp : Nat) (ps : List (Int × Int × Int × Int)) (s : Int) (A : Option Addr) (L C ga ca : Nat) (st : List Int × List ViewD) (gs : List Nat) (wr : World) : Prop where
  below : Below w.heap.size w wr
  pix : wr.ownsRow w.heap.size 5 1 (.slice A L C) L (st.1.map (Value.int .u8))
  all : wr.ownsRow w.heap.size 69 1 (.slice (some ⟨ga, 0, none⟩) gs.length ca) gs.length (gs.map ptrV)
  pal : IOwn wr w.heap.size Q kp ps
  len : gs.length = st.2.length
  img : ∀ (i g : Nat) (v : ViewD), gs[i]? = some g → st.2[i]? = some v → wr.heap[g]? = some (.cells (imgV (.slice Q ps.length kp) A L C s i v) 94 (0, 0))

theorem own_ne {w : World} {base base' e e' size size' n n' : Nat} {v v' : Value} {xs xs' : List Value} (h : w.ownsRow base e size v n xs) (h' : w.ownsRow base' e' size' v' n' xs') (hne : e ≠ e') : v.ownBlock = none ∨ v.ownBlock ≠ v'.ownBlock := by
  rcases h.2 with ⟨rfl, _⟩ | ⟨g, cap, cur, rfl, _, hh, _⟩
  · exact Or.inl rfl
  · refine Or.inr fun e0 => ?_
    rcases h'.2 with ⟨rfl, _⟩ | ⟨g', cap', cur', rfl, _, hh', _⟩
    · simp [Value.ownBlock] at e0
    · have : g = g' := by simpa [Value.ownBlock] using e0
      subst this
      rw [hh] at hh'
      injection hh' with hh'
      injection hh' with _ ht
      exact hne ht
section
variable {w wr wr' : World} {Q : Option Addr} {kp : Nat} {ps : List (Int × Int × Int × Int)} {s : Int} {A : Option Addr} {L C ga ca : Nat} {st : List Int × List ViewD} {gs : List Nat}
theorem RunInv.next (h : RunInv w Q kp ps s A L C ga ca st gs wr) (hb : Below wr.heap.size wr wr') : RunInv w Q kp ps s A L C ga ca st gs wr' :=
  ⟨h.below.trans (hb.mono h.below.size), ownsRow_below h.pix hb, ownsRow_below h.all hb, ownsRow_below h.pal hb, h.len, fun i g v hg hv => heap_kept (h.img i g v hg hv) hb⟩
/-- Behind a write to the bytes. -/
theorem RunInv.written {zs : List Int} (h : RunInv w Q kp ps s A L C ga ca st gs wr) (hg : wr.grownBy wr' (Value.slice A L C).ownBlock) (hp : wr'.ownsRow w.heap.size 5 1 (.slice A L C) L (zs.map (Value.int .u8))) : RunInv w Q kp ps s A L C ga ca (zs, st.2) gs wr' := by
  refine ⟨?_, hp, h.all.kept hg (own_ne h.all h.pix (by decide)), h.pal.kept hg (own_ne h.pal h.pix (by decide)), h.len, fun i g v hgi hv => ?_⟩
  · refine h.below.trans ⟨hg.os, hg.tape, hg.output, hg.size, fun k hk => hg.block k (Nat.lt_of_lt_of_le hk h.below.size) (fun e => ?_)⟩
    have := (h.pix.lt k e.symm).1
    omega
  · have h1 := h.img i g v hgi hv
    exact grown_heap hg h1 (own_blk h.pix h1 (by decide))
/-- Behind a further image. -/
theorem RunInv.more {W1 W2 : World} {g3 ga' ca' : Nat} {v : ViewD} {o : Obj} (h : RunInv w Q kp ps s A L C ga ca st gs wr) (hb : Below wr.heap.size wr W1) (h3 : W1.heap[g3]? = some (.cells (imgV (.slice Q ps.length kp) A L C s gs.length v) 94 (0, 0)))
    (hown : W2.ownsRow w.heap.size 69 1 (.slice (some ⟨ga', 0, none⟩) (gs.length + 1) ca') (gs.length + 1) (gs.map ptrV ++ [ptrV g3])) (hg : (W1.alloc o).grownBy W2 (Value.slice (some ⟨ga, 0, none⟩) gs.length ca).ownBlock) :
    RunInv w Q kp ps s A L C ga' ca' (st.1, st.2 ++ [v]) (gs ++ [g3]) W2 := by
  have h1 := (h.next hb).next ((Below.refl _ _).alloc (Nat.le_refl _) o)
  have h3' := heap_kept h3 ((Below.refl W1.heap.size W1).alloc (Nat.le_refl _) o)
  refine ⟨?_, h1.pix.kept hg (own_ne h1.pix h1.all (by decide)), by simpa using hown, h1.pal.kept hg (own_ne h1.pal h1.all (by decide)), by simp [h.len], fun i g u hgi hu => ?_⟩
  · refine h1.below.trans ⟨hg.os, hg.tape, hg.output, hg.size, fun k hk => hg.block k (Nat.lt_of_lt_of_le hk h1.below.size) (fun e => ?_)⟩
    have := (h1.all.lt k e.symm).1
    omega
  · rcases Nat.lt_or_ge i gs.length with hi | hi
    · rw [List.getElem?_append_left hi] at hgi
      rw [List.getElem?_append_left (by rw [← h.len]; exact hi)] at hu
      have h2 := h1.img i g u hgi hu
      exact grown_heap hg h2 (own_blk h1.all h2 (by decide))
    · rw [List.getElem?_append_right hi] at hgi
      rw [List.getElem?_append_right (by rw [← h.len]; exact hi)] at hu
      have hi0 : i - gs.length = 0 := by
        rcases Nat.eq_zero_or_pos (i - gs.length) with h0 | h0
        · exact h0
        · rw [List.getElem?_eq_none (by simp; omega)] at hgi
          cases hgi
      rw [hi0] at hgi
      rw [← h.len, hi0] at hu
      simp at hgi hu
      subst hgi hu
      have : i = gs.length := by omega
      subst this
      exact grown_heap hg h3' (own_blk h1.all h3' (by decide))
/-- The pointer to image i. -/
theorem RunInv.ptr (h : RunInv w Q kp ps s A L C ga ca st gs wr) {i : Nat} (hi : i < st.2.length) : ∃ g, gs[i]? = some g ∧ wr.cell? ⟨ga, i, none⟩ = some (ptrV g) ∧ wr.heap[g]? = some (.cells (imgV (.slice Q ps.length kp) A L C s i (st.2.getD i zeroV)) 94 (0, 0)) := by
  have hi' : i < gs.length := by rw [h.len]; exact hi
  refine ⟨gs[i], List.getElem?_eq_getElem hi', ?_, ?_⟩
  · rw [h.all.cellAt i (by omega), List.getElem?_map, List.getElem?_eq_getElem hi']
    rfl
  · refine h.img i _ _ (List.getElem?_eq_getElem hi') ?_
    rw [List.getD_eq_getElem?_getD, List.getElem?_eq_getElem hi]
    rfl
end

/-- A script in memory. -/
def stepV (p : StepD) : List Value := [.int .i64 p.op, .int .i64 p.im, .int .i64 p.x, .int .i64 p.y, .int .i64 p.r0, .int .i64 p.r1, .int .i64 p.r2, .int .i64 p.r3, .int .u16 p.v0, .int .u16 p.v1, .int .u16 p.v2, .int .u16 p.v3, .int .u8 p.ix]
def StepsAt (w : World) (B : Option Addr) (l : List StepD) : Prop :=
  (B = none → l = []) ∧ ∀ ad, B = some ad → ∀ i p, l[i]? = some p → ∀ j v, (stepV p)[j]? = some v → w.cell? (ad.add (i * 13 + j)) = some v
theorem StepsAt.below {w w' : World} {B : Option Addr} {l : List StepD} (h : StepsAt w B l) (hb : Below w.heap.size w w') : StepsAt w' B l :=
  ⟨h.1, fun ad e i p hp j v hv => cell_kept (h.2 ad e i p hp j v hv) hb⟩
theorem StepsAt.addr {w : World} {B : Option Addr} {l : List StepD} (h : StepsAt w B l) (hp : 0 < l.length) : ∃ b o, B = some ⟨b, o, none⟩ := by
  rcases B with _ | ⟨b, o, sp⟩
  · have := h.1 rfl; subst this; simp at hp
  · have h0 := h.2 _ rfl 0 l[0] (List.getElem?_eq_getElem hp) 0 _ rfl
    have hs : sp = none := by simpa [Addr.add] using World.cell?_spot h0
    subst hs
    exact ⟨b, o, rfl⟩
theorem StepsAt.cell {w : World} {b o : Nat} {l : List StepD} (h : StepsAt w (some ⟨b, o, none⟩) l) {i : Nat} {p : StepD} (hp : l[i]? = some p) {j : Nat} {v : Value} (hv : (stepV p)[j]? = some v) : w.cell? ⟨b, o + i * 13 + j, none⟩ = some v := by
  have h0 := h.2 _ rfl i p hp j v hv
  rcases Nat.eq_zero_or_pos (i * 13 + j) with h1 | h1
  · rw [h1] at h0
    rw [show o + i * 13 + j = o by omega]
    simpa [Addr.add] using h0
  · have e : (⟨b, o, none⟩ : Addr).add (i * 13 + j) = ⟨b, o + i * 13 + j, none⟩ := by unfold Addr.add; rw [if_neg (by omega)]; simp [Nat.add_assoc]
    rw [e] at h0
    exact h0

end Go.Proofs.Ytkhgobeeaiagfaa
