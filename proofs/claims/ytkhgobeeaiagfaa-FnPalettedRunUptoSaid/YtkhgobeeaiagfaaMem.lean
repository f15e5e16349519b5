/- Plain: what is kept over a call; a slice that has bytes; blocks of bytes that are written. -/
import Derived.Test.YtkhgobeeaiagfaaPlain
import Derived.Deep.Draws
namespace Go.Proofs.Ytkhgobeeaiagfaa
open Go.RowKit
set_option linter.unusedVariables false

theorem heap_kept {w w' : World} {g : Nat} {o : Obj} (h : w.heap[g]? = some o) (hb : Below w.heap.size w w') : w'.heap[g]? = some o := by
  rcases Nat.lt_or_ge g w.heap.size with hlt | hge
  · rw [hb.block g hlt]; exact h
  · rw [Array.getElem?_eq_none hge] at h; cases h
theorem cell_kept {w w' : World} {a : Addr} {v : Value} (h : w.cell? a = some v) (hb : Below w.heap.size w w') : w'.cell? a = some v := by
  rw [hb.cell (World.block_lt_of_cell? w _ h)]; exact h
theorem heap_lt {w : World} {g : Nat} {o : Obj} (h : w.heap[g]? = some o) : g < w.heap.size := by
  rcases Nat.lt_or_ge g w.heap.size with hlt | hge
  · exact hlt
  · rw [Array.getElem?_eq_none hge] at h; cases h
/-- A slice that has bytes: its address, and each of its cells. -/
theorem Reads.addr {w : World} {A : Option Addr} {zs : List Int} (h : Reads w A zs) (hp : 0 < zs.length) : ∃ b o, A = some ⟨b, o, none⟩ := by
  rcases A with _ | ⟨b, o, sp⟩
  · have := h.1 rfl; subst this; simp at hp
  · have h0 := h.2 _ rfl 0 hp
    have hs : sp = none := by simpa [Addr.add] using World.cell?_spot h0
    subst hs
    exact ⟨b, o, rfl⟩
theorem Reads.cell {w : World} {b o : Nat} {zs : List Int} (h : Reads w (some ⟨b, o, none⟩) zs) {j : Nat} (hj : j < zs.length) : w.cell? ⟨b, o + j, none⟩ = some (.int .u8 (zs.getD j 0)) := by
  have h0 := h.2 _ rfl j hj
  rcases Nat.eq_zero_or_pos j with rfl | hp
  · simpa [Addr.add] using h0
  · have e : (⟨b, o, none⟩ : Addr).add j = ⟨b, o + j, none⟩ := by unfold Addr.add; rw [if_neg (by omega)]
    rw [e] at h0
    exact h0
/-- Where the bytes of a pixel begin, as a natural number. -/
theorem Fits.place {x0 y0 x1 y1 s sz x y : Int} {n z : Nat} (h : Fits x0 y0 x1 y1 s sz n) (hz : sz = z) (hi : Insd x0 y0 x1 y1 x y) : ∃ k : Nat, (y - y0) * s + (x - x0) * sz = k ∧ k + z ≤ n := by
  have h1 := h.at_ (by omega) hi
  unfold offs at h1
  generalize (y - y0) * s + (x - x0) * sz = t at *
  exact ⟨t.toNat, by omega, by omega⟩

/-- Two blocks of unlike cells are two. -/
theorem block_ne {w : World} {a b : Nat} {ca cb : Array Value} {ta tb : TypeId} (ha : w.heap[a]? = some (.cells ca ta (0, 0))) (hb : w.heap[b]? = some (.cells cb tb (0, 0))) (hne : ta ≠ tb) : a ≠ b := by
  rintro rfl
  rw [ha] at hb
  injection hb with hb
  injection hb with _ ht
  exact hne ht
/-- What turns but one block, and what is new. -/
theorem grown_of {w w' : World} {row : Option Nat} (h : Below w.heap.size w w') : w.grownBy w' row := ⟨h.os, h.tape, h.output, h.size, fun i hi _ => h.block i hi⟩
theorem grown_drewN {a w : World} {row : Option Nat} (h : a.grownBy w row) (n : Nat) : a.grownBy (w.drewN n) row := ⟨h.os, h.tape, h.output, h.size, h.block⟩
theorem grown_setCell {a w : World} {g : Nat} (h : a.grownBy w (some g)) {p : Addr} (hp : p.block = g ∨ a.heap.size ≤ p.block) (u : Value) : a.grownBy (w.setCell p u) (some g) :=
  ⟨h.os, h.tape, h.output, by simpa [World.setCell] using h.size, fun i hi hne => (Below.heap_setCell w p u i (by
    rintro rfl
    rcases hp with hp | hp
    · exact hne (by rw [hp])
    · omega)).trans (h.block i hi hne)⟩
theorem grown_below {a w w' : World} {row : Option Nat} (h : a.grownBy w row) (hb : Below w.heap.size w w') : a.grownBy w' row :=
  ⟨hb.os.trans h.os, hb.tape.trans h.tape, hb.output.trans h.output, Nat.le_trans h.size hb.size, fun i hi hn => (hb.block i (Nat.lt_of_lt_of_le hi h.size)).trans (h.block i hi hn)⟩
theorem grown_heap {w w' : World} {row : Option Nat} {g : Nat} {o : Obj} (h : w.grownBy w' row) (hg : w.heap[g]? = some o) (hne : some g ≠ row) : w'.heap[g]? = some o :=
  (h.block g (heap_lt hg) hne).trans hg
/-- A call that turned one block of the caller's own has turned nothing of what was there before. -/
theorem below_grown {W w w' : World} {g : Nat} (h : Below W.heap.size W w) (hg : w.grownBy w' (some g)) (hr : W.heap.size ≤ g) : Below W.heap.size W w' :=
  h.trans ⟨hg.os, hg.tape, hg.output, hg.size, fun k hk => hg.block k (Nat.lt_of_lt_of_le hk h.size) (fun e => by injection e with e; omega)⟩

/-- Two bytes of a block, written. -/
def put2 (ms : Array Value) (j : Nat) (v : Int) : Array Value := (ms.setIfInBounds j (.int .u8 (v / 256))).setIfInBounds (j + 1) (.int .u8 (v % 256))
/-- Two bytes of a list, written. -/
def putL (zs : List Int) (k : Nat) (v : Int) : List Int := (zs.set k (v / 256)).set (k + 1) (v % 256)
theorem putL_length (zs : List Int) (k : Nat) (v : Int) : (putL zs k v).length = zs.length := by simp [putL]
theorem put2_size (ms : Array Value) (j : Nat) (v : Int) : (put2 ms j v).size = ms.size := by simp [put2]
theorem putL_bytes {zs : List Int} (h : Bytes zs) (k : Nat) (v : Int) (h0 : 0 ≤ v) (h1 : v ≤ 65535) : Bytes (putL zs k v) := by
  intro z hz
  unfold putL at hz
  rcases List.mem_or_eq_of_mem_set hz with hz | rfl
  · rcases List.mem_or_eq_of_mem_set hz with hz | rfl
    · exact h z hz
    · omega
  · omega
theorem take_put2 {ms : Array Value} {zs : List Int} {n k : Nat} {v : Int} (h : ms.toList.take n = zs.map (Value.int .u8)) :
    (put2 ms k v).toList.take n = (putL zs k v).map (Value.int .u8) := by
  unfold put2 putL
  rw [List.map_set, List.map_set, Array.toList_setIfInBounds, Array.toList_setIfInBounds, List.take_set, List.take_set, h]
/-- What Set makes of a row of bytes of the call's own. -/
theorem own_put2 {w w' : World} {base b n c k : Nat} {ms : Array Value} {zs : List Int} {v : Int} (h : w.ownsRow base 5 1 (.slice (some ⟨b, 0, none⟩) n c) n (zs.map (Value.int .u8)))
    (hb : w.heap[b]? = some (.cells ms 5 (0, 0))) (hb' : w'.heap[b]? = some (.cells (put2 ms k v) 5 (0, 0))) : w'.ownsRow base 5 1 (.slice (some ⟨b, 0, none⟩) n c) n ((putL zs k v).map (Value.int .u8)) := by
  obtain ⟨h1, h2⟩ := h
  refine ⟨by simpa [putL] using h1, ?_⟩
  rcases h2 with ⟨hv, _⟩ | ⟨g, cap, cur, hv, hg, hh, hnc, hcm, hsz, htk⟩
  · cases hv
  · injection hv with e1 e2 e3
    injection e1 with e1
    injection e1 with e1
    subst e1 e3
    rw [hb] at hh
    injection hh with hh
    injection hh with hh
    subst hh
    exact Or.inr ⟨b, c, put2 ms k v, rfl, hg, hb', hnc, hcm, by rw [put2_size]; exact hsz, by simpa using take_put2 (by simpa using htk)⟩
/-- A row of bytes of the call's own that has bytes: its block. -/
theorem own_block {w : World} {base n c : Nat} {A : Option Addr} {zs : List Int} (h : w.ownsRow base 5 1 (.slice A n c) n (zs.map (Value.int .u8))) (hp : 0 < n) :
    ∃ b ms, A = some ⟨b, 0, none⟩ ∧ base ≤ b ∧ w.heap[b]? = some (.cells ms 5 (0, 0)) ∧ n ≤ ms.size ∧ n ≤ c ∧ ms.toList.take n = zs.map (Value.int .u8) := by
  rcases h.2 with ⟨_, h0⟩ | ⟨g, cap, cur, hv, hg, hh, hnc, _, hsz, htk⟩
  · omega
  · injection hv with e1 e2 e3
    subst e1 e3
    exact ⟨g, cur, rfl, hg, hh, by omega, hnc, by simpa using htk⟩

end Go.Proofs.Ytkhgobeeaiagfaa
