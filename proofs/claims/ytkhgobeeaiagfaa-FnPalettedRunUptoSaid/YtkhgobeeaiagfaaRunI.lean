/- impl.PalettedRun: a script over an image. -/
import Derived.Test.YtkhgobeeaiagfaaRunC
namespace Go.Proofs.Ytkhgobeeaiagfaa
open Go.RowKit
set_option linter.unusedVariables false
set_option linter.unusedSimpArgs false

theorem infoPtr : (Try.prog.info? 69).map (fun i => (i.zero, i.size, i.bytes)) = some (some (.pointer none), 1, 8) := by kernel_rfl
theorem infoDeep : (Try.prog.info? 27).map (fun i => (i.zero, i.size, i.bytes)) = some (some (.agg #[.int .i64 0, .int .i64 0, .int .i64 0, .int .i64 0, .int .i64 0, .slice none 0 0, .slice none 0 0]), 7, 88) := by kernel_rfl

/-- An image as plain data. -/
structure DeepD where
  x0 : Int
  y0 : Int
  x1 : Int
  y1 : Int
  s : Int
  A : Option Addr
  c : Nat
  zs : List Int
  B : Option Addr
  k : Nat
  ps : List (Int × Int × Int × Int)
def deepV (d : DeepD) : List Value := [.int .i64 d.x0, .int .i64 d.y0, .int .i64 d.x1, .int .i64 d.y1, .int .i64 d.s, .slice d.A d.zs.length d.c, .slice d.B d.ps.length d.k]
/-- What a view hands back. -/
def DeepOf (ps : List (Int × Int × Int × Int)) (s : Int) (zs : List Int) (i : Nat) (v : ViewD) (d : DeepD) : Prop :=
  if i = 0 ∨ v.on = true then d.x0 = v.x0 ∧ d.y0 = v.y0 ∧ d.x1 = v.x1 ∧ d.y1 = v.y1 ∧ d.s = s ∧ d.zs = zs.drop v.base ∧ d.ps = ps
  else d.x0 = 0 ∧ d.y0 = 0 ∧ d.x1 = 0 ∧ d.y1 = 0 ∧ d.s = 0 ∧ d.zs = [] ∧ d.ps = ps
def OwnD (w : World) (base : Nat) (d : DeepD) : Prop := w.ownsRow base 5 1 (.slice d.A d.zs.length d.c) d.zs.length (d.zs.map (Value.int .u8)) ∧ POwn w base d.B d.k d.ps
theorem OwnD.below {w w' : World} {base : Nat} {d : DeepD} (h : OwnD w base d) (hb : Below w.heap.size w w') : OwnD w' base d := ⟨ownsRow_below h.1 hb, ownsRow_below h.2 hb⟩
theorem OwnD.base {w : World} {b b' : Nat} {d : DeepD} (h : OwnD w b' d) (hb : b ≤ b') : OwnD w b d := ⟨ownsRow_base h.1 hb, ownsRow_base h.2 hb⟩
theorem OwnD.kept {W1 W2 : World} {base b2 e2 s2 n2 : Nat} {d : DeepD} {vo : Value} {xs : List Value} (h : OwnD W1 base d) (ho : W1.ownsRow b2 e2 s2 vo n2 xs) (h1 : 5 ≠ e2) (h2 : 39 ≠ e2) (hg : W1.grownBy W2 vo.ownBlock) : OwnD W2 base d :=
  ⟨h.1.kept hg (own_ne h.1 ho h1), World.ownsRow.kept h.2 hg (own_ne h.2 ho h2)⟩
def OfBack (ps : List (Int × Int × Int × Int)) (s : Int) (zs : List Int) (i : Nat) (v : ViewD) (w : World) (e : Ending) (w' : World) : Prop :=
  ∃ d : DeepD, DeepOf ps s zs i v d ∧ e = .returned (.agg #[.int .i64 d.x0, .int .i64 d.y0, .int .i64 d.x1, .int .i64 d.y1, .int .i64 d.s, .slice d.A d.zs.length d.c, .slice d.B d.ps.length d.k]) ∧ OwnD w' w.heap.size d ∧ Below w.heap.size w w'
theorem runOf {w wr : World} {Q : Option Addr} {kp : Nat} {ps : List (Int × Int × Int × Int)} (pl : (ps.length : Int) ≤ 2097152) {s : Int} {A : Option Addr} {L C ga ca : Nat} {st : List Int × List ViewD} {gs : List Nat} (h : RunInv w Q kp ps s A L C ga ca st gs wr) (hG : GoodG s L st) (hl : L ≤ 140737488351232) {i g : Nat} (hi : i < st.2.length) (hg : wr.heap[g]? = some (.cells (imgV (.slice Q ps.length kp) A L C s i (st.2.getD i zeroV)) 94 (0, 0))) :
    Calls Try.prog 49 #[.pointer (some ⟨g, 0, none⟩)] wr (OfBack ps s st.1 i (st.2.getD i zeroV) wr) := by
  have hv := hG.2.2.1 _ (mem_getD hi)
  have hL := hG.1
  generalize st.2.getD i zeroV = v at hg hv ⊢
  unfold imgV at hg
  by_cases h1 : i = 0 ∨ v.on = true
  · rw [if_pos h1] at hg
    have hlen : (st.1.drop v.base).length = L - v.base := by rw [List.length_drop, hL]
    have hR : Reads wr (addrOf A v.base) (st.1.drop v.base) := by
      have h0 : Reads wr A st.1 := Reads.of_own (base := w.heap.size) (e := 5) (c := C) (by rw [hL]; exact h.pix)
      rcases A with _ | ⟨b, o, sp⟩
      · refine ⟨fun _ => by rw [h0.1 rfl]; simp, fun ad e => by cases e⟩
      · have : sp = none ∧ o = 0 := by
          rcases h.pix.2 with ⟨hv, _⟩ | ⟨g', cap, cur, hv, _⟩
          · cases hv
          · injection hv with e1; injection e1 with e1; injection e1 with _ e2 e3; exact ⟨e3, e2⟩
        obtain ⟨rfl, rfl⟩ := this
        exact h0.drop v.base
    refine (of_any g v.x0 v.y0 v.x1 v.y1 s (addrOf A v.base) (C - v.base) (st.1.drop v.base) Q kp ps wr (by rw [hlen]; exact hg) hR (by unfold Small; rw [hlen]; omega) (show Hid _ from fun e => ?_) (IReads.of_own h.pal) pl).mono ?_
    · rcases A with _ | a
      · have := own_nil h.pix rfl; omega
      · cases e
    · rintro e w1 ⟨A', c', B', k', rfl, hown, hp, hb⟩
      exact ⟨⟨v.x0, v.y0, v.x1, v.y1, s, A', c', st.1.drop v.base, B', k', ps⟩, by unfold DeepOf; rw [if_pos h1]; exact ⟨rfl, rfl, rfl, rfl, rfl, rfl, rfl⟩, rfl, ⟨hown, hp⟩, hb⟩
  · rw [if_neg h1] at hg
    refine (of_any g 0 0 0 0 0 none 0 [] Q kp ps wr hg (show Hid _ from ⟨fun _ => rfl, fun ad e => by cases e⟩) (Nat.zero_le _) (show Hid _ from fun _ => rfl) (IReads.of_own h.pal) pl).mono ?_
    rintro e w1 ⟨A', c', B', k', rfl, hown, hp, hb⟩
    exact ⟨⟨0, 0, 0, 0, 0, A', c', [], B', k', ps⟩, by unfold DeepOf; rw [if_neg h1]; exact ⟨rfl, rfl, rfl, rfl, rfl, rfl, rfl⟩, rfl, ⟨hown, hp⟩, hb⟩

/-- What the first loop makes. -/
def RunOne (w : World) (Q : Option Addr) (kp : Nat) (ps : List (Int × Int × Int × Int)) (s : Int) (A : Option Addr) (L C : Nat) (zs : List Int) (l : List StepD) (v0 : ViewD) (k n ga ca : Nat) (wr : World) : Prop :=
  ∃ gs : List Nat, gs.length = n ∧ RunInv w Q kp ps s A L C ga ca (runG s (zs, [v0]) (l.take k)) gs wr
/-- What the second loop makes. -/
def RunTwo (w : World) (Q : Option Addr) (kp : Nat) (ps : List (Int × Int × Int × Int)) (s : Int) (A : Option Addr) (L C : Nat) (st : List Int × List ViewD) (n ga ca j : Nat) (vo : Value) (wr : World) : Prop :=
  (∃ gs : List Nat, gs.length = n ∧ RunInv w Q kp ps s A L C ga ca st gs wr) ∧
  ∃ ds : List DeepD, ds.length = j ∧ wr.ownsRow w.heap.size 27 7 vo j (ds.flatMap deepV) ∧ (∀ (i : Nat) (d : DeepD) (v : ViewD), ds[i]? = some d → st.2[i]? = some v → DeepOf ps s st.1 i v d) ∧ ∀ d ∈ ds, OwnD wr w.heap.size d
/-- Images as plain data in memory. -/
def DeepsAt (w : World) (go : Nat) (ds : List DeepD) : Prop :=
  (∀ (i : Nat) (d : DeepD), ds[i]? = some d → ∀ (j : Nat) (v : Value), (deepV d)[j]? = some v → w.cell? ⟨go, i * 7 + j, none⟩ = some v) ∧ ∀ d ∈ ds, Reads w d.A d.zs ∧ (d.A = none → d.c = 0) ∧ PReads w d.B d.ps
/-- What impl.PalettedRun hands back. -/
def RunBack (ps : List (Int × Int × Int × Int)) (s : Int) (st : List Int × List ViewD) (w : World) (e : Ending) (w' : World) : Prop :=
  ∃ (go oc : Nat) (ds : List DeepD), e = .returned (.slice (some ⟨go, 0, none⟩) ds.length oc) ∧ ds.length = st.2.length ∧ (∀ (i : Nat) (d : DeepD) (v : ViewD), ds[i]? = some d → st.2[i]? = some v → DeepOf ps s st.1 i v d) ∧ DeepsAt w' go ds ∧ Below w.heap.size w w'

theorem news1 {w : World} {v : Value} {t : TypeId} : ∀ (j : Nat) (u : Value), [v][j]? = some u → (w.alloc (.cells #[v] t)).cell? ((⟨w.heap.size, 0, none⟩ : Addr).add j) = some u := by
  intro j u hj
  match j, hj with
  | 0, hj => simp at hj; subst hj; simp [Addr.add]
theorem news6 {w : World} {a b c d e f g : Value} {t : TypeId} : ∀ (j : Nat) (u : Value), [a, b, c, d, e, f, g][j]? = some u → (w.alloc (.cells #[a, b, c, d, e, f, g] t)).cell? ((⟨w.heap.size, 0, none⟩ : Addr).add j) = some u := by
  intro j u hj
  match j, hj with
  | 0, hj => simp at hj; subst hj; simp [Addr.add]
  | 1, hj => simp at hj; subst hj; simp [Addr.add]
  | 2, hj => simp at hj; subst hj; simp [Addr.add]
  | 3, hj => simp at hj; subst hj; simp [Addr.add]
  | 4, hj => simp at hj; subst hj; simp [Addr.add]
  | 5, hj => simp at hj; subst hj; simp [Addr.add]
  | 6, hj => simp at hj; subst hj; simp [Addr.add]
theorem one1 {g : Nat} : ∀ u ∈ [ptrV g], u.oneCell' = true := by intro u hu; simp at hu; subst hu; rfl
theorem one6 (d : DeepD) : ∀ u ∈ deepV d, u.oneCell' = true := by
  intro u hu
  simp [deepV] at hu
  rcases hu with rfl | rfl | rfl | rfl | rfl | rfl | rfl <;> rfl

section
variable {w wr : World} {Q : Option Addr} {kp : Nat} {ps : List (Int × Int × Int × Int)} {s : Int} {A : Option Addr} {L C ga ca k n : Nat} {zs : List Int} {l : List StepD} {v0 : ViewD} {p : StepD}
theorem RunOne.skip (h : RunOne w Q kp ps s A L C zs l v0 k n ga ca wr) (hp : l[k]? = some p) (hs : p.im < 0 ∨ (n : Int) ≤ p.im) {wr' : World} (hb : Below wr.heap.size wr wr') : RunOne w Q kp ps s A L C zs l v0 (k + 1) n ga ca wr' := by
  obtain ⟨gs, hn, hi⟩ := h
  refine ⟨gs, hn, ?_⟩
  rw [runG_snoc s _ l hp, stepG_skip]
  · exact hi.next hb
  · rw [← hi.len, hn]; exact hs
theorem RunOne.other (h : RunOne w Q kp ps s A L C zs l v0 k n ga ca wr) (hp : l[k]? = some p) (h0 : 0 ≤ p.im) (h1 : p.im < n) (ho : p.op ≠ 0) (ho' : p.op ≠ 1) {wr' : World} (hb : Below wr.heap.size wr wr') : RunOne w Q kp ps s A L C zs l v0 (k + 1) n ga ca wr' := by
  obtain ⟨gs, hn, hi⟩ := h
  refine ⟨gs, hn, ?_⟩
  rw [runG_snoc s _ l hp, stepG_other s _ p h0 (by rw [← hi.len, hn]; exact h1) ho ho']
  exact hi.next hb
theorem RunOne.set (hp : l[k]? = some p) (h0 : 0 ≤ p.im) (h1 : p.im < n) (ho : p.op = 0) {gs : List Nat} (hn : gs.length = n) (hlen : n = (runG s (zs, [v0]) (l.take k)).2.length)
    (h : RunInv w Q kp ps s A L C ga ca (setV s (runG s (zs, [v0]) (l.take k)).1 ((runG s (zs, [v0]) (l.take k)).2.getD p.im.toNat zeroV) p, (runG s (zs, [v0]) (l.take k)).2) gs wr) : RunOne w Q kp ps s A L C zs l v0 (k + 1) n ga ca wr := by
  refine ⟨gs, hn, ?_⟩
  rw [runG_snoc s _ l hp, stepG_set s _ p h0 (by omega) ho]
  exact h
theorem RunOne.sub (hp : l[k]? = some p) (h0 : 0 ≤ p.im) (h1 : p.im < n) (ho : p.op = 1) {gs : List Nat} {g : Nat} (hn : gs.length = n) (hlen : n = (runG s (zs, [v0]) (l.take k)).2.length)
    (h : RunInv w Q kp ps s A L C ga ca ((runG s (zs, [v0]) (l.take k)).1, (runG s (zs, [v0]) (l.take k)).2 ++ [seenV s ((runG s (zs, [v0]) (l.take k)).2.getD p.im.toNat zeroV) p]) (gs ++ [g]) wr) : RunOne w Q kp ps s A L C zs l v0 (k + 1) (n + 1) ga ca wr := by
  refine ⟨gs ++ [g], by simp [hn], ?_⟩
  rw [runG_snoc s _ l hp, stepG_sub s _ p h0 (by omega) ho]
  exact h
end
section
variable {w wr W1 W2 : World} {Q : Option Addr} {kp : Nat} {ps : List (Int × Int × Int × Int)} {s : Int} {A : Option Addr} {L C ga ca n j : Nat} {st : List Int × List ViewD} {vo : Value}
theorem RunTwo.next {d : DeepD} {o : Obj} {go cap : Nat} (h : RunTwo w Q kp ps s A L C st n ga ca j vo wr) (hj : j < st.2.length) (hd : DeepOf ps s st.1 j (st.2.getD j zeroV) d) (hb : Below wr.heap.size wr W1) (hD : OwnD W1 wr.heap.size d)
    (hown : ∀ xs, (W1.alloc o).ownsRow w.heap.size 27 7 vo j xs → W2.ownsRow w.heap.size 27 7 (.slice (some ⟨go, 0, none⟩) (j + 1) cap) (j + 1) (xs ++ deepV d)) (hg : (W1.alloc o).grownBy W2 vo.ownBlock) :
    RunTwo w Q kp ps s A L C st n ga ca (j + 1) (.slice (some ⟨go, 0, none⟩) (j + 1) cap) W2 := by
  obtain ⟨⟨gs, hn, hi⟩, ds, hl, ho, hD0, hO⟩ := h
  have hi1 := (hi.next hb).next ((Below.refl _ _).alloc (Nat.le_refl _) o)
  have ho1 := ownsRow_below (ownsRow_below ho hb) ((Below.refl W1.heap.size W1).alloc (Nat.le_refl _) o)
  have hsz := hi.below.size
  refine ⟨⟨gs, hn, ⟨?_, hi1.pix.kept hg (own_ne hi1.pix ho1 (by decide)), hi1.all.kept hg (own_ne hi1.all ho1 (by decide)), hi1.pal.kept hg (own_ne hi1.pal ho1 (by decide)), hi1.len, fun i g v hgi hv => ?_⟩⟩, ds ++ [d], by simp [hl], ?_, fun i e v he hv => ?_, fun e he => ?_⟩
  · refine hi1.below.trans ⟨hg.os, hg.tape, hg.output, hg.size, fun k hk => hg.block k (Nat.lt_of_lt_of_le hk hi1.below.size) (fun e => ?_)⟩
    have := (ho1.lt k e.symm).1
    omega
  · have h2 := hi1.img i g v hgi hv
    exact grown_heap hg h2 (own_blk ho1 h2 (by decide))
  · have := hown _ ho1
    simpa [List.flatMap_append] using this
  · rcases Nat.lt_or_ge i ds.length with h1 | h1
    · rw [List.getElem?_append_left h1] at he
      exact hD0 i e v he hv
    · rw [List.getElem?_append_right h1] at he
      have hi0 : i - ds.length = 0 := by
        rcases Nat.eq_zero_or_pos (i - ds.length) with h0 | h0
        · exact h0
        · rw [List.getElem?_eq_none (by simp; omega)] at he; cases he
      rw [hi0] at he
      simp at he
      subst he
      have hij : i = j := by omega
      subst hij
      rw [List.getD_eq_getElem?_getD, hv] at hd
      exact hd
  · rcases List.mem_append.1 he with he | he
    · have h2 : OwnD (W1.alloc o) w.heap.size e := ((hO e he).below hb).below ((Below.refl W1.heap.size W1).alloc (Nat.le_refl _) o)
      exact h2.kept ho1 (by decide) (by decide) hg
    · rw [List.mem_singleton] at he
      subst he
      have h2 : OwnD (W1.alloc o) w.heap.size e := (hD.below ((Below.refl W1.heap.size W1).alloc (Nat.le_refl _) o)).base hsz
      exact h2.kept ho1 (by decide) (by decide) hg
theorem flat_get (ds : List DeepD) : ∀ {i : Nat} {d : DeepD}, ds[i]? = some d → ∀ {j : Nat} {v : Value}, (deepV d)[j]? = some v → (ds.flatMap deepV)[i * 7 + j]? = some v := by
  induction ds with
  | nil => intro i d h; simp at h
  | cons a r ih =>
    intro i d h j v hv
    have hj : j < 7 := by
      rcases Nat.lt_or_ge j 7 with h0 | h0
      · exact h0
      · rw [List.getElem?_eq_none (by simpa [deepV] using h0)] at hv; cases hv
    have hlen : (deepV a).length = 7 := rfl
    rw [List.flatMap_cons]
    match i, h with
    | 0, h =>
      simp at h
      subst h
      rw [List.getElem?_append_left (by omega)]
      simpa using hv
    | i + 1, h =>
      rw [List.getElem?_append_right (by omega), hlen, show (i + 1) * 7 + j - 7 = i * 7 + j by omega]
      exact ih (by simpa using h) hv
theorem RunTwo.back (h : RunTwo w Q kp ps s A L C st n ga ca n vo wr) (hn : 0 < n) : RunBack ps s st w (.returned vo) wr := by
  obtain ⟨⟨gs, hgn, hi⟩, ds, hl, ho, hD0, hO⟩ := h
  obtain ⟨go, cap, rfl, _, hlt⟩ := ho.form hn
  refine ⟨go, cap, ds, by rw [hl], by rw [hl, ← hgn, hi.len], hD0, ⟨fun i d hd j v hv => ?_, fun d hd => ⟨Reads.of_own (hO d hd).1, own_nil (hO d hd).1, PReads.of_own (hO d hd).2⟩⟩, hi.below⟩
  have hil : i < n := by rw [← hl]; exact (List.getElem?_eq_some_iff.1 hd).1
  have hj : j < 7 := by
    rcases Nat.lt_or_ge j 7 with h0 | h0
    · exact h0
    · rw [List.getElem?_eq_none (by simpa [deepV] using h0)] at hv; cases hv
  rw [ho.cellAt (i * 7 + j) (by omega)]
  exact flat_get ds hd hv
end

theorem own_same {w : World} {base e size n : Nat} {v : Value} {xs ys : List Value} (h : w.ownsRow base e size v n xs) (h' : w.ownsRow base e size v n ys) : xs = ys := by
  rcases h.2 with ⟨rfl, rfl⟩ | ⟨g, cap, cur, rfl, _, hh, _, _, _, ht⟩
  · have h1 := h.1
    have h2 := h'.1
    rw [Nat.zero_mul] at h1 h2
    rw [List.eq_nil_of_length_eq_zero h1, List.eq_nil_of_length_eq_zero h2]
  · rcases h'.2 with ⟨hv, _⟩ | ⟨g', cap', cur', hv, _, hh', _, _, _, ht'⟩
    · cases hv
    · injection hv with e1
      injection e1 with e1
      injection e1 with e1
      subst e1
      rw [hh] at hh'
      injection hh' with hh'
      injection hh' with hh'
      subst hh'
      rw [← ht, ← ht']

set_option maxRecDepth 100000 in
set_option maxHeartbeats 8000000 in
theorem implRun_any (x0 y0 x1 y1 s : Int) (A : Option Addr) (c : Nat) (zs : List Int) (Bp : Option Addr) (kb : Nat) (ps : List (Int × Int × Int × Int)) (B : Option Addr) (cB : Nat) (l : List StepD) (w : World) (hr : Hid (Reads w A zs)) (hy : Hid (Bytes zs)) (hl : Small zs) (hn : Hid (A = none → c = 0)) (pr : Hid (PReads w Bp ps)) (pl : (ps.length : Int) ≤ 2097152)
    (hF : Hid (Fits x0 y0 x1 y1 s 1 zs.length)) (hQ : Hid (StepsAt w B l)) (hok : Hid (∀ p ∈ l, OkS p)) (hll : (l.length : Int) ≤ 2097152) (st : List Int × List ViewD) (HST : Hid (runG s (zs, [firstV x0 y0 x1 y1]) l = st)) :
    Calls Try.prog 40 #[.agg #[.int .i64 x0, .int .i64 y0, .int .i64 x1, .int .i64 y1, .int .i64 s, .slice A zs.length c, .slice Bp ps.length kb], .slice B l.length cB] w (RunBack ps s st w) := by
  obtain ⟨i0, hi, hz0, hz1, hz2⟩ := info_parts infoPtr
  obtain ⟨i6, hi6, hy0, hy1, hy2⟩ := info_parts infoDeep
  have hta := assert_any
  have HL : Hid (zs.length ≤ 140737488351232) := hl
  have HG : Hid (∀ k, GoodG s zs.length (runG s (zs, [firstV x0 y0 x1 y1]) (l.take k))) := fun k => runG_good hF.out.2.1 _ (fun p hp => hok.out p (List.mem_of_mem_take hp)) (first_good hF.out hy.out)
  have HLN : Hid (∀ k, (runG s (zs, [firstV x0 y0 x1 y1]) (l.take k)).2.length ≤ 1 + k) := fun k => Nat.le_trans (runG_len _) (by simp; omega)
  go_enter Try.func40, Try.ntmps40
  go_wp2_with fail
  refine (to_any x0 y0 x1 y1 s A c zs Bp kb ps _ (show Hid _ from hr.out.below ((Below.refl _ _).alloc (Nat.le_refl _) _)) hl hn (show Hid _ from pr.out.below ((Below.refl _ _).alloc (Nat.le_refl _) _)) pl).mono ?_
  rintro e w1 ⟨g, A', c', Q, kp, rfl, hgb, hg, hown, hpal, hb1⟩
  have hB1 : Below w.heap.size w w1 := ((Below.refl _ _).alloc (Nat.le_refl _) _).trans (hb1.mono (by simp))
  have HC : Hid (c' ≤ 9223372036854775807) := own_cap hown
  have hown' := ownsRow_base (base := w.heap.size) hown (by simp)
  have hpal' : IOwn w1 w.heap.size Q kp ps := ownsRow_base (base := w.heap.size) hpal (by simp)
  have HR0 : Hid (RunOne w Q kp ps s A' zs.length c' zs l (firstV x0 y0 x1 y1) 0 1 w1.heap.size 1 (w1.alloc (.cells #[.pointer (some ⟨g, 0, none⟩)] 69))) := by
    have aw : Below w1.heap.size w1 (w1.alloc (.cells #[.pointer (some ⟨g, 0, none⟩)] 69)) := (Below.refl _ _).alloc (Nat.le_refl _) _
    refine ⟨[g], rfl, hB1.trans (aw.mono hB1.size), ownsRow_below hown' aw, ?_, ownsRow_below hpal' aw, rfl, fun i g' v hgi hv => ?_⟩
    · exact World.ownsRow_lit w1 #[.pointer (some ⟨g, 0, none⟩)] 1 hB1.size (by unfold maxLen; omega) rfl
    · have hi0 : i = 0 := by
        rcases Nat.eq_zero_or_pos i with h0 | h0
        · exact h0
        · rw [List.getElem?_eq_none (by simp; omega)] at hgi; cases hgi
      subst hi0
      simp at hgi
      subst hgi
      simp [runG] at hv
      subst hv
      have : imgV (.slice Q ps.length kp) A' zs.length c' s 0 (firstV x0 y0 x1 y1) = #[.slice A' zs.length c', .int .i64 s, .int .i64 x0, .int .i64 y0, .int .i64 x1, .int .i64 y1, .slice Q ps.length kp] := by
        unfold imgV
        rw [if_pos (Or.inl rfl)]
        have : addrOf A' 0 = A' := by
          rcases hown.2 with ⟨hv, _⟩ | ⟨g', cap, cur, hv, _⟩
          · injection hv with e1; rw [e1]; rfl
          · injection hv with e1; rw [e1]; rfl
        simp [firstV, this]
      rw [this]
      exact heap_kept hg aw
  clear hg hown hown' hpal hpal' hb1 hgb hr pr
  generalize hLL : zs.length = L at HR0 HG HL
  have HLL := Lib.hid hLL
  clear hLL
  go_wp2
  go_loopw [5, 19] (fun al q wr => ∃ (k n ga ca : Nat), k ≤ l.length ∧ n ≤ k + 1 ∧ q = .int .i64 k ∧ al = .slice (some ⟨ga, 0, none⟩) n ca ∧ Hid (RunOne w Q kp ps s A' L c' zs l (firstV x0 y0 x1 y1) k n ga ca wr)) (fun _ q _ => l.length - (intOf q).toNat)
  case atStart => exact ⟨0, 1, _, _, Nat.zero_le _, by omega, rfl, rfl, HR0⟩
  case round =>
    obtain ⟨k, n, ga, ca, hk, hnk, rfl, rfl, HI⟩ := hrel
    clear HR0
    by_cases hkl : k < l.length
    · obtain ⟨gs, hgn, hinv⟩ := HI.out
      have HQ := Lib.hid (hQ.out.below hinv.below)
      obtain ⟨p, hp⟩ : ∃ p, l[k]? = some p := ⟨_, List.getElem?_eq_getElem hkl⟩
      have HOK : Hid (OkS p) := hok.out p (List.mem_of_getElem? hp)
      have HSW : Hid (w.heap.size ≤ wr.heap.size) := hinv.below.size
      obtain ⟨b, o, rfl⟩ := hQ.out.addr (by omega)
      obtain ⟨op, im, x, y, r0, r1, r2, r3, v0, v1, v2, v3, ix⟩ := p
      have q0 : wr.cell? ⟨b, o + k * 13, none⟩ = some (.int .i64 op) := HQ.out.cell hp (j := 0) rfl
      have q1 : wr.cell? ⟨b, o + k * 13 + 1, none⟩ = some (.int .i64 im) := HQ.out.cell hp (j := 1) rfl
      have q2 : wr.cell? ⟨b, o + k * 13 + 2, none⟩ = some (.int .i64 x) := HQ.out.cell hp (j := 2) rfl
      have q3 : wr.cell? ⟨b, o + k * 13 + 3, none⟩ = some (.int .i64 y) := HQ.out.cell hp (j := 3) rfl
      have q4 : wr.cell? ⟨b, o + k * 13 + 4, none⟩ = some (.int .i64 r0) := HQ.out.cell hp (j := 4) rfl
      have q5 : wr.cell? ⟨b, o + k * 13 + 5, none⟩ = some (.int .i64 r1) := HQ.out.cell hp (j := 5) rfl
      have q6 : wr.cell? ⟨b, o + k * 13 + 6, none⟩ = some (.int .i64 r2) := HQ.out.cell hp (j := 6) rfl
      have q7 : wr.cell? ⟨b, o + k * 13 + 7, none⟩ = some (.int .i64 r3) := HQ.out.cell hp (j := 7) rfl
      have q8 : wr.cell? ⟨b, o + k * 13 + 8, none⟩ = some (.int .u16 v0) := HQ.out.cell hp (j := 8) rfl
      have q9 : wr.cell? ⟨b, o + k * 13 + 9, none⟩ = some (.int .u16 v1) := HQ.out.cell hp (j := 9) rfl
      have q10 : wr.cell? ⟨b, o + k * 13 + 10, none⟩ = some (.int .u16 v2) := HQ.out.cell hp (j := 10) rfl
      have q11 : wr.cell? ⟨b, o + k * 13 + 11, none⟩ = some (.int .u16 v3) := HQ.out.cell hp (j := 11) rfl
      have q12 : wr.cell? ⟨b, o + k * 13 + 12, none⟩ = some (.int .u8 ix) := HQ.out.cell hp (j := 12) rfl
      have HP := Lib.hid hp
      have HV := Lib.hid hinv
      have HGN := Lib.hid hgn
      clear hp hinv hgn HQ
      have hcl : l.length ≤ 2097152 := by omega
      by_cases him : im < 0
      · go_wp2
        go_roundw
        case rel => exact ⟨k + 1, n, ga, ca, by omega, by omega, by go_num, rfl, HI.out.skip HP.out (Or.inl him) ((Below.refl _ _).alloc (Nat.le_refl _) _)⟩
        case measure => simp [intOf]; omega
      · by_cases him2 : (n : Int) ≤ im
        · go_wp2
          go_roundw
          case rel => exact ⟨k + 1, n, ga, ca, by omega, by omega, by go_num, rfl, HI.out.skip HP.out (Or.inr him2) ((Below.refl _ _).alloc (Nat.le_refl _) _)⟩
          case measure => simp [intOf]; omega
        · obtain ⟨i, rfl⟩ := Int.eq_ofNat_of_zero_le (show 0 ≤ im by omega)
          have hin : (i : Int) < (n : Int) := by omega
          have hi0 : (0 : Int) ≤ (i : Int) := by omega
          have HLE : Hid (n = (runG s (zs, [firstV x0 y0 x1 y1]) (l.take k)).2.length) := by unfold Hid; rw [← HV.out.len]; exact HGN.out.symm
          have HIL : Hid (i < (runG s (zs, [firstV x0 y0 x1 y1]) (l.take k)).2.length) := by unfold Hid; rw [← HLE.out]; omega
          obtain ⟨g', _, hpc, hgc⟩ := HV.out.ptr HIL.out
          unfold ptrV at hpc
          have HGC := Lib.hid hgc
          have hgl : ga < wr.heap.size := block_lt_of_cell hpc
          have hga1 : ¬ ga = wr.heap.size := by omega
          have hga2 : ¬ wr.heap.size = ga := by omega
          have hdi : decide ((i : Int) < 0) = false := by simp
          have hdn : decide (n ≤ i) = false := by simp; omega
          clear hgc him him2
          by_cases hop : op = 0
          · subst hop
            go_wp2_with fail
            refine (runSet (p := ⟨0, (i : Int), x, y, r0, r1, r2, r3, v0, v1, v2, v3, ix⟩) (HV.out.next ((Below.refl _ _).alloc (Nat.le_refl _) _)) (HG.out k) HL.out HIL.out (heap_kept HGC.out ((Below.refl _ _).alloc (Nat.le_refl _) _)) HOK.out).mono ?_
            rintro e w2 ⟨rfl, hinv2⟩
            have HI2 : Hid (RunOne w Q kp ps s A' L c' zs l (firstV x0 y0 x1 y1) (k + 1) n ga ca w2) := RunOne.set HP.out hi0 hin rfl HGN.out HLE.out hinv2
            clear hinv2
            go_wp2
            go_roundw
            case rel => exact ⟨k + 1, n, ga, ca, by omega, by omega, by go_num, rfl, HI2⟩
            case measure => simp [intOf]; omega
          · have hop0 : (op == 0) = false := by simpa using hop
            by_cases hop1 : op = 1
            · subst hop1
              go_wp2_with fail
              refine (rectangle_any r0 r1 r2 r3 _).mono ?_
              rintro e w2 ⟨rfl, hb2⟩
              have hbb : Below wr.heap.size wr w2 := ((Below.refl _ _).alloc (Nat.le_refl _) _).trans (hb2.mono (by simp))
              have HV2 := Lib.hid (HV.out.next hbb)
              have HGC2 := Lib.hid (heap_kept HGC.out hbb)
              clear hb2 hbb HGC HV
              go_wp2_with fail
              refine (runSub (p := ⟨1, (i : Int), x, y, r0, r1, r2, r3, v0, v1, v2, v3, ix⟩) HV2.out (HG.out k) HC.out HIL.out HGC2.out).mono ?_
              rintro e w3 ⟨g3, rfl, hg3, hb3⟩
              have HV3 := Lib.hid (HV2.out.next hb3)
              have HSZ : Hid (w.heap.size ≤ (w3.alloc (.cells #[.pointer (some ⟨g3, 0, none⟩)] 69)).heap.size) := Nat.le_trans HV3.out.below.size (by simp)
              have HOWN : Hid ((w3.alloc (.cells #[.pointer (some ⟨g3, 0, none⟩)] 69)).ownsRow w.heap.size 69 1 (.slice (some ⟨ga, 0, none⟩) n ca) n (gs.map ptrV)) := by
                have := HV3.out.all
                rw [HGN.out] at this
                exact this.alloc _
              have HG3 := Lib.hid hg3
              have HB3 := Lib.hid hb3
              clear hg3 hb3
              go_wp2_with (at_builtin; refine wpList_append_lies _ rfl _ _ 92 rfl w.heap.size 69 i0 (.pointer none) 1 8 Try.underlying92 hi hz0 hz1 hz2 rfl (by decide) _ n _ rfl HOWN.out ⟨w3.heap.size, 0, none⟩ 1 1 [ptrV g3] rfl rfl news1 one1 (by decide) (by unfold maxLen; omega) (by omega) HSZ.out (w3.heap.size + 1) (by simp) ?_; intro ga' ca' w4 hown4 hgr4 hat4 hlt4)
              have HI2 : Hid (RunOne w Q kp ps s A' L c' zs l (firstV x0 y0 x1 y1) (k + 1) (n + 1) ga' ca' w4) := by
                have hgl := HGN.out
                subst hgl
                exact RunOne.sub HP.out hi0 hin rfl rfl HLE.out (HV2.out.more HB3.out HG3.out hown4 hgr4)
              clear hown4 hgr4 hat4 hlt4
              go_wp2
              go_roundw
              case rel => exact ⟨k + 1, n + 1, ga', ca', by omega, by omega, by go_num, rfl, HI2⟩
              case measure => simp [intOf]; omega
            · have hop1' : (op == 1) = false := by simpa using hop1
              go_wp2
              go_roundw
              case rel => exact ⟨k + 1, n, ga, ca, by omega, by omega, by go_num, rfl, HI.out.other HP.out hi0 hin hop hop1 ((Below.refl _ _).alloc (Nat.le_refl _) _)⟩
              case measure => simp [intOf]; omega
    · obtain rfl : k = l.length := by omega
      have HX : Hid (runG s (zs, [firstV x0 y0 x1 y1]) (l.take l.length) = st) := by unfold Hid; rw [List.take_length]; exact HST.out
      have HGO : Hid (GoodG s L st) := by have := HG.out l.length; rw [HX.out] at this; exact this
      obtain ⟨gs, hgn, hinv⟩ := HI.out
      rw [HX.out] at hinv
      have HNL : Hid (n = st.2.length) := by unfold Hid; rw [← hinv.len]; exact hgn.symm
      have hn0 : 0 < n := by rw [HNL.out]; exact HGO.out.2.2.2.1
      have H20 : Hid (RunTwo w Q kp ps s A' L c' st n ga ca 0 (.slice none 0 0) wr) := ⟨⟨gs, hgn, hinv⟩, [], rfl, World.ownsRow_nil _ _ _ _, fun i d v h => by simp at h, fun d h => by simp at h⟩
      clear hgn hinv hkl hk
      go_wp2
      go_loopw [11, 69] (fun out q wr => ∃ (j cp : Nat) (OA : Option Addr), j ≤ n ∧ q = .int .i64 j ∧ out = .slice OA j cp ∧ Hid (RunTwo w Q kp ps s A' L c' st n ga ca j (.slice OA j cp) wr)) (fun _ q _ => n - (intOf q).toNat)
      case atStart => exact ⟨0, 0, none, Nat.zero_le _, rfl, rfl, H20⟩
      case round =>
        obtain ⟨j, cp, OA, hj, rfl, rfl, H2⟩ := hrel
        clear H20 HI
        by_cases hjn : j < n
        · obtain ⟨gs', hgn, hinv⟩ := H2.out.1
          have HJL : Hid (j < st.2.length) := by unfold Hid; rw [← HNL.out]; exact hjn
          obtain ⟨g', _, hpc, hgc⟩ := hinv.ptr HJL.out
          unfold ptrV at hpc
          have HV := Lib.hid hinv
          have HGC := Lib.hid hgc
          clear hgc hgn hinv
          go_wp2_with fail
          refine (runOf pl HV.out HGO.out HL.out HJL.out HGC.out).mono ?_
          rintro e w2 ⟨d2, hd2, rfl, hod2, hb2⟩
          have HD2 := Lib.hid hd2
          have HOD := Lib.hid hod2
          have HB2 := Lib.hid hb2
          have HSZ : Hid (w.heap.size ≤ (w2.alloc (.cells #[.int .i64 d2.x0, .int .i64 d2.y0, .int .i64 d2.x1, .int .i64 d2.y1, .int .i64 d2.s, .slice d2.A d2.zs.length d2.c, .slice d2.B d2.ps.length d2.k] 27)).heap.size) := Nat.le_trans (Nat.le_trans HV.out.below.size hb2.size) (by simp)
          obtain ⟨ds, hdl, hdo, _⟩ := H2.out.2
          have HOWN : Hid ((w2.alloc (.cells #[.int .i64 d2.x0, .int .i64 d2.y0, .int .i64 d2.x1, .int .i64 d2.y1, .int .i64 d2.s, .slice d2.A d2.zs.length d2.c, .slice d2.B d2.ps.length d2.k] 27)).ownsRow w.heap.size 27 7 (.slice OA j cp) j (ds.flatMap deepV)) := (ownsRow_below hdo hb2).alloc _
          clear hd2 hod2 hb2 hdl hdo
          go_wp2_with (at_builtin; refine wpList_append_lies _ rfl _ _ 64 rfl w.heap.size 27 i6 _ 7 88 Try.underlying64 hi6 hy0 hy1 hy2 rfl (by decide) _ j _ rfl HOWN.out ⟨w2.heap.size, 0, none⟩ 1 1 (deepV d2) rfl rfl news6 (one6 d2) (by decide) (by unfold maxLen; omega) (by omega) HSZ.out (w2.heap.size + 1) (by simp) ?_; intro go cap w4 hown4 hgr4 hat4 hlt4)
          have H3 : Hid (RunTwo w Q kp ps s A' L c' st n ga ca (j + 1) (.slice (some ⟨go, 0, none⟩) (j + 1) cap) w4) := by
            refine H2.out.next HJL.out HD2.out HB2.out HOD.out (fun xs hx => ?_) hgr4
            have e1 : xs = ds.flatMap deepV := own_same hx HOWN.out
            rw [e1]
            exact hown4
          clear hown4 hgr4 hat4 hlt4
          go_wp2
          go_roundw
          case rel => exact ⟨j + 1, cap, some ⟨go, 0, none⟩, by omega, by go_num, rfl, H3⟩
          case measure => simp [intOf]; omega
        · obtain rfl : j = n := by omega
          have HBK := Lib.hid (H2.out.back hn0)
          go_wp2
          go_ret
          exact HBK.out

end Go.Proofs.Ytkhgobeeaiagfaa
