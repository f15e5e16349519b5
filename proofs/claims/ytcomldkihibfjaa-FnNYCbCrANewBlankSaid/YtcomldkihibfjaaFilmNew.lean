/- Films: yCbCrSize, mul3NonNeg, add2NonNeg, NewNYCbCrA. -/
import Derived.Test.YtcomldkihibfjaaFilmOf
import Derived.Test.YtcomldkihibfjaaPlainFilm
import Derived.Deep.OwnRows
import Derived.BigRegion
namespace Go.Proofs.Ytcomldkihibfjaa
open Go.RowKit
set_option linter.unusedVariables false
set_option linter.unusedSimpArgs false

def cwOf (rt x0 x1 : Int) : Int := (x1 + (stW rt - 1)) / stW rt - x0 / stW rt
def chOf (rt y0 y1 : Int) : Int := (y1 + (stH rt - 1)) / stH rt - y0 / stH rt
def zeros (n : Nat) : List Int := List.replicate n 0
theorem zeros_length (n : Nat) : (zeros n).length = n := by simp [zeros]
theorem zeros_small {n : Nat} (h : n ≤ 1048576) : Small (zeros n) := by unfold Small; rw [zeros_length]; omega
theorem zeros_get (n k : Nat) : (zeros n).getD k 0 = 0 := by
  unfold zeros
  rw [List.getD_eq_getElem?_getD, List.getElem?_replicate]
  split <;> rfl
theorem made_zero (n : Nat) : (madeCells #[.int .u8 0] n).toList = (List.replicate n (0 : Int)).map (Value.int .u8) := by
  apply List.ext_getElem
  · simp [madeCells]
  · intro i h1 h2
    simp [madeCells, Nat.mod_one]

set_option maxRecDepth 100000 in
set_option maxHeartbeats 2000000 in
theorem size_0 (x0 y0 x1 y1 : Int) (w : World) (n1 : 0 ≤ x0) (n2 : 0 ≤ y0) (n3 : x0 ≤ x1) (n4 : y0 ≤ y1) (n5 : x1 ≤ 1099511627776) (n6 : y1 ≤ 1099511627776) :
    Calls Try.prog 46 #[.agg #[.int .i64 x0, .int .i64 y0, .int .i64 x1, .int .i64 y1], .int .i64 0] w fun e w' => e = .returned (.tuple #[.int .i64 (x1 - x0), .int .i64 (y1 - y0), .int .i64 (x1 - x0), .int .i64 (y1 - y0)]) ∧ Below w.heap.size w w' := by
  have hB : Below w.heap.size w (w.alloc (.cells #[.int .i64 x0, .int .i64 y0, .int .i64 x1, .int .i64 y1] 58)) := (Below.refl _ _).alloc (Nat.le_refl _) _
  have R0 : (w.alloc (.cells #[.int .i64 x0, .int .i64 y0, .int .i64 x1, .int .i64 y1] 58)).cell? ⟨w.heap.size, 0, none⟩ = some (.int .i64 x0) := by first | (simp; done) | go_simp
  have R1 : (w.alloc (.cells #[.int .i64 x0, .int .i64 y0, .int .i64 x1, .int .i64 y1] 58)).cell? ⟨w.heap.size, 1, none⟩ = some (.int .i64 y0) := by first | (simp; done) | go_simp
  have R2 : (w.alloc (.cells #[.int .i64 x0, .int .i64 y0, .int .i64 x1, .int .i64 y1] 58)).cell? ⟨w.heap.size, 2, none⟩ = some (.int .i64 x1) := by first | (simp; done) | go_simp
  have R3 : (w.alloc (.cells #[.int .i64 x0, .int .i64 y0, .int .i64 x1, .int .i64 y1] 58)).cell? ⟨w.heap.size, 3, none⟩ = some (.int .i64 y1) := by first | (simp; done) | go_simp
  go_enter Try.func46, Try.ntmps46
  go_wp2_with fail
  generalize w.alloc (.cells #[.int .i64 x0, .int .i64 y0, .int .i64 x1, .int .i64 y1] 58) = W0 at *
  have P0 : Below W0.heap.size W0 W0.drew := (Below.refl _ _).drew
  have toS : ∀ W' : World, Below W0.heap.size W0 W' → (W'.cell? ⟨w.heap.size, 0, none⟩ = some (.int .i64 x0) ∧ W'.cell? ⟨w.heap.size, 1, none⟩ = some (.int .i64 y0) ∧ W'.cell? ⟨w.heap.size, 2, none⟩ = some (.int .i64 x1) ∧ W'.cell? ⟨w.heap.size, 3, none⟩ = some (.int .i64 y1)) := fun W' h => ⟨cell_kept R0 h, cell_kept R1 h, cell_kept R2 h, cell_kept R3 h⟩
  have TOS := Lib.hid toS
  clear toS
  have hzN := hB.size
  refine wp_region_held_drew (S := fun w' => w'.cell? ⟨w.heap.size, 0, none⟩ = some (.int .i64 x0) ∧ w'.cell? ⟨w.heap.size, 1, none⟩ = some (.int .i64 y0) ∧ w'.cell? ⟨w.heap.size, 2, none⟩ = some (.int .i64 x1) ∧ w'.cell? ⟨w.heap.size, 3, none⟩ = some (.int .i64 y1)) (by kernel_rfl) ?_ (fun hHeld => ?_)
  · (first | (refine TOS.out _ ?_; first | with_reducible exact P2 | with_reducible exact P1 | with_reducible exact P0))
  refine wpAnyH_take (i := 0) (oi := _) (v := ?v0) rfl (by kernel_rfl) (by kernel_rfl) (by kernel_rfl) (fun _ _ _ h => h) (Or.inl ⟨by rfl, ?hy0⟩) (by assumption) ?rest0
  case hy0 => (intro w hSw; (try dsimp only at hSw); go_simp <;> with_reducible rfl)
  try simp only [Act.put, List.getElem_toArray, List.getElem_cons_succ, List.getElem_cons_zero, List.setIfInBounds_toArray, List.set_cons_zero, List.set_cons_succ]
  refine wpAnyH_take (i := 2) (oi := _) (v := ?v2) rfl (by kernel_rfl) (by kernel_rfl) (by kernel_rfl) (fun _ _ _ h => h) (Or.inl ⟨by rfl, ?hy2⟩) (by assumption) ?rest2
  case hy2 => (intro w hSw; (try dsimp only at hSw); go_simp <;> with_reducible rfl)
  try simp only [Act.put, List.getElem_toArray, List.getElem_cons_succ, List.getElem_cons_zero, List.setIfInBounds_toArray, List.set_cons_zero, List.set_cons_succ]
  refine wpAnyH_ready (rs := [1]) (by kernel_rfl) (by simp) ?_
  refine AllReadyH.cons (o := _) rfl (fun K hK => ?_) AllReadyH.nil
  go_simp
  (go_at_call 55; refine (dx_any x0 y0 x1 y1 _ (by omega) (by omega)).mono ?_; rintro e v1' ⟨rfl, hq1⟩; have P1 : Below W0.heap.size W0 v1' := P0.trans (hq1.mono P0.size))
  refine hK.out _ _ ?_ (fun hHeld => ?_)
  · (first | (refine TOS.out _ ?_; first | with_reducible exact P2 | with_reducible exact P1 | with_reducible exact P0))
  clear hK K
  try simp only [Act.put, List.getElem_toArray, List.getElem_cons_succ, List.getElem_cons_zero, List.setIfInBounds_toArray, List.set_cons_zero, List.set_cons_succ]
  refine wpAnyH_ready (rs := [3]) (by kernel_rfl) (by simp) ?_
  refine AllReadyH.cons (o := _) rfl (fun K hK => ?_) AllReadyH.nil
  go_simp
  (go_at_call 56; refine (dy_any x0 y0 x1 y1 _ (by omega) (by omega)).mono ?_; rintro e v2' ⟨rfl, hq2⟩; have P2 : Below W0.heap.size W0 v2' := P1.trans (hq2.mono P1.size))
  refine hK.out _ _ ?_ (fun hHeld => ?_)
  · (first | (refine TOS.out _ ?_; first | with_reducible exact P2 | with_reducible exact P1 | with_reducible exact P0))
  clear hK K
  try simp only [Act.put, List.getElem_toArray, List.getElem_cons_succ, List.getElem_cons_zero, List.setIfInBounds_toArray, List.set_cons_zero, List.set_cons_succ]
  refine wpAnyH_take (i := 4) (oi := _) (v := ?v4) rfl (by kernel_rfl) (by kernel_rfl) (by kernel_rfl) (fun _ _ _ h => h) (Or.inl ⟨by rfl, ?hy4⟩) (by assumption) ?rest4
  case hy4 => (intro w hSw; (try dsimp only at hSw); go_simp <;> with_reducible rfl)
  try simp only [Act.put, List.getElem_toArray, List.getElem_cons_succ, List.getElem_cons_zero, List.setIfInBounds_toArray, List.set_cons_zero, List.set_cons_succ]
  refine wpAnyH_take (i := 5) (oi := _) (v := ?v5) rfl (by kernel_rfl) (by kernel_rfl) (by kernel_rfl) (fun _ _ _ h => h) (Or.inl ⟨by rfl, ?hy5⟩) (by assumption) ?rest5
  case hy5 => (intro w hSw; (try dsimp only at hSw); go_simp <;> with_reducible rfl)
  try simp only [Act.put, List.getElem_toArray, List.getElem_cons_succ, List.getElem_cons_zero, List.setIfInBounds_toArray, List.set_cons_zero, List.set_cons_succ]
  refine wpAnyH_done (by kernel_rfl) ?_ _
  have hBn := P2
  clear TOS hHeld P0 hzN
  replace R0 := cell_kept R0 hBn
  replace R1 := cell_kept R1 hBn
  replace R2 := cell_kept R2 hBn
  replace R3 := cell_kept R3 hBn
  replace hB := hB.trans (hBn.mono hB.size)
  clear hBn hq1 hq2 P1 P2
  go_wp2
  exact bodyPost_ret (v := .tuple #[.int .i64 (x1 - x0), .int .i64 (y1 - y0), .int .i64 (x1 - x0), .int .i64 (y1 - y0)]) (by first | (simp [results, Try.results46, go_sem]; done) | (simp [results, Try.results46, go_sem]; omega)) rfl ⟨rfl, hB⟩

set_option maxRecDepth 100000 in
set_option maxHeartbeats 2000000 in
theorem size_1 (x0 y0 x1 y1 : Int) (w : World) (n1 : 0 ≤ x0) (n2 : 0 ≤ y0) (n3 : x0 ≤ x1) (n4 : y0 ≤ y1) (n5 : x1 ≤ 1099511627776) (n6 : y1 ≤ 1099511627776) :
    Calls Try.prog 46 #[.agg #[.int .i64 x0, .int .i64 y0, .int .i64 x1, .int .i64 y1], .int .i64 1] w fun e w' => e = .returned (.tuple #[.int .i64 (x1 - x0), .int .i64 (y1 - y0), .int .i64 ((x1 + 1) / 2 - x0 / 2), .int .i64 (y1 - y0)]) ∧ Below w.heap.size w w' := by
  have hB : Below w.heap.size w (w.alloc (.cells #[.int .i64 x0, .int .i64 y0, .int .i64 x1, .int .i64 y1] 58)) := (Below.refl _ _).alloc (Nat.le_refl _) _
  have R0 : (w.alloc (.cells #[.int .i64 x0, .int .i64 y0, .int .i64 x1, .int .i64 y1] 58)).cell? ⟨w.heap.size, 0, none⟩ = some (.int .i64 x0) := by first | (simp; done) | go_simp
  have R1 : (w.alloc (.cells #[.int .i64 x0, .int .i64 y0, .int .i64 x1, .int .i64 y1] 58)).cell? ⟨w.heap.size, 1, none⟩ = some (.int .i64 y0) := by first | (simp; done) | go_simp
  have R2 : (w.alloc (.cells #[.int .i64 x0, .int .i64 y0, .int .i64 x1, .int .i64 y1] 58)).cell? ⟨w.heap.size, 2, none⟩ = some (.int .i64 x1) := by first | (simp; done) | go_simp
  have R3 : (w.alloc (.cells #[.int .i64 x0, .int .i64 y0, .int .i64 x1, .int .i64 y1] 58)).cell? ⟨w.heap.size, 3, none⟩ = some (.int .i64 y1) := by first | (simp; done) | go_simp
  go_enter Try.func46, Try.ntmps46
  go_wp2_with fail
  generalize w.alloc (.cells #[.int .i64 x0, .int .i64 y0, .int .i64 x1, .int .i64 y1] 58) = W0 at *
  have P0 : Below W0.heap.size W0 W0.drew := (Below.refl _ _).drew
  have toS : ∀ W' : World, Below W0.heap.size W0 W' → (W'.cell? ⟨w.heap.size, 0, none⟩ = some (.int .i64 x0) ∧ W'.cell? ⟨w.heap.size, 1, none⟩ = some (.int .i64 y0) ∧ W'.cell? ⟨w.heap.size, 2, none⟩ = some (.int .i64 x1) ∧ W'.cell? ⟨w.heap.size, 3, none⟩ = some (.int .i64 y1)) := fun W' h => ⟨cell_kept R0 h, cell_kept R1 h, cell_kept R2 h, cell_kept R3 h⟩
  have TOS := Lib.hid toS
  clear toS
  have hzN := hB.size
  refine wp_region_held_drew (S := fun w' => w'.cell? ⟨w.heap.size, 0, none⟩ = some (.int .i64 x0) ∧ w'.cell? ⟨w.heap.size, 1, none⟩ = some (.int .i64 y0) ∧ w'.cell? ⟨w.heap.size, 2, none⟩ = some (.int .i64 x1) ∧ w'.cell? ⟨w.heap.size, 3, none⟩ = some (.int .i64 y1)) (by kernel_rfl) ?_ (fun hHeld => ?_)
  · (first | (refine TOS.out _ ?_; first | with_reducible exact P2 | with_reducible exact P1 | with_reducible exact P0))
  refine wpAnyH_take (i := 0) (oi := _) (v := ?vr2_0) rfl (by kernel_rfl) (by kernel_rfl) (by kernel_rfl) (fun _ _ _ h => h) (Or.inl ⟨by rfl, ?hyr2_0⟩) (by assumption) ?restr2_0
  case hyr2_0 => (intro w hSw; (try dsimp only at hSw); go_simp <;> with_reducible rfl)
  try simp only [Act.put, List.getElem_toArray, List.getElem_cons_succ, List.getElem_cons_zero, List.setIfInBounds_toArray, List.set_cons_zero, List.set_cons_succ]
  refine wpAnyH_take (i := 2) (oi := _) (v := ?vr2_2) rfl (by kernel_rfl) (by kernel_rfl) (by kernel_rfl) (fun _ _ _ h => h) (Or.inl ⟨by rfl, ?hyr2_2⟩) (by assumption) ?restr2_2
  case hyr2_2 => (intro w hSw; (try dsimp only at hSw); go_simp <;> with_reducible rfl)
  try simp only [Act.put, List.getElem_toArray, List.getElem_cons_succ, List.getElem_cons_zero, List.setIfInBounds_toArray, List.set_cons_zero, List.set_cons_succ]
  refine wpAnyH_ready (rs := [1]) (by kernel_rfl) (by simp) ?_
  refine AllReadyH.cons (o := _) rfl (fun K hK => ?_) AllReadyH.nil
  go_simp
  (go_at_call 55; refine (dx_any x0 y0 x1 y1 _ (by omega) (by omega)).mono ?_; rintro e v1' ⟨rfl, hq1⟩; have P1 : Below W0.heap.size W0 v1' := P0.trans (hq1.mono P0.size))
  refine hK.out _ _ ?_ (fun hHeld => ?_)
  · (first | (refine TOS.out _ ?_; first | with_reducible exact P2 | with_reducible exact P1 | with_reducible exact P0))
  clear hK K
  try simp only [Act.put, List.getElem_toArray, List.getElem_cons_succ, List.getElem_cons_zero, List.setIfInBounds_toArray, List.set_cons_zero, List.set_cons_succ]
  refine wpAnyH_ready (rs := [3]) (by kernel_rfl) (by simp) ?_
  refine AllReadyH.cons (o := _) rfl (fun K hK => ?_) AllReadyH.nil
  go_simp
  (go_at_call 56; refine (dy_any x0 y0 x1 y1 _ (by omega) (by omega)).mono ?_; rintro e v2' ⟨rfl, hq2⟩; have P2 : Below W0.heap.size W0 v2' := P1.trans (hq2.mono P1.size))
  refine hK.out _ _ ?_ (fun hHeld => ?_)
  · (first | (refine TOS.out _ ?_; first | with_reducible exact P2 | with_reducible exact P1 | with_reducible exact P0))
  clear hK K
  try simp only [Act.put, List.getElem_toArray, List.getElem_cons_succ, List.getElem_cons_zero, List.setIfInBounds_toArray, List.set_cons_zero, List.set_cons_succ]
  refine wpAnyH_take (i := 4) (oi := _) (v := ?vr2_4) rfl (by kernel_rfl) (by kernel_rfl) (by kernel_rfl) (fun _ _ _ h => h) (Or.inl ⟨by rfl, ?hyr2_4⟩) (by assumption) ?restr2_4
  case hyr2_4 => (intro w hSw; (try dsimp only at hSw); go_simp <;> with_reducible rfl)
  try simp only [Act.put, List.getElem_toArray, List.getElem_cons_succ, List.getElem_cons_zero, List.setIfInBounds_toArray, List.set_cons_zero, List.set_cons_succ]
  refine wpAnyH_take (i := 5) (oi := _) (v := ?vr2_5) rfl (by kernel_rfl) (by kernel_rfl) (by kernel_rfl) (fun _ _ _ h => h) (Or.inl ⟨by rfl, ?hyr2_5⟩) (by assumption) ?restr2_5
  case hyr2_5 => (intro w hSw; (try dsimp only at hSw); go_simp <;> with_reducible rfl)
  try simp only [Act.put, List.getElem_toArray, List.getElem_cons_succ, List.getElem_cons_zero, List.setIfInBounds_toArray, List.set_cons_zero, List.set_cons_succ]
  refine wpAnyH_done (by kernel_rfl) ?_ _
  have hBn := P2
  clear TOS hHeld P0 hzN
  replace R0 := cell_kept R0 hBn
  replace R1 := cell_kept R1 hBn
  replace R2 := cell_kept R2 hBn
  replace R3 := cell_kept R3 hBn
  replace hB := hB.trans (hBn.mono hB.size)
  clear hBn hq1 hq2 P1 P2
  go_wp2
  exact bodyPost_ret (v := .tuple #[.int .i64 (x1 - x0), .int .i64 (y1 - y0), .int .i64 ((x1 + 1) / 2 - x0 / 2), .int .i64 (y1 - y0)]) (by first | (simp [results, Try.results46, go_sem]; done) | (simp [results, Try.results46, go_sem]; omega)) rfl ⟨rfl, hB⟩

set_option maxRecDepth 100000 in
set_option maxHeartbeats 2000000 in
theorem size_2 (x0 y0 x1 y1 : Int) (w : World) (n1 : 0 ≤ x0) (n2 : 0 ≤ y0) (n3 : x0 ≤ x1) (n4 : y0 ≤ y1) (n5 : x1 ≤ 1099511627776) (n6 : y1 ≤ 1099511627776) :
    Calls Try.prog 46 #[.agg #[.int .i64 x0, .int .i64 y0, .int .i64 x1, .int .i64 y1], .int .i64 2] w fun e w' => e = .returned (.tuple #[.int .i64 (x1 - x0), .int .i64 (y1 - y0), .int .i64 ((x1 + 1) / 2 - x0 / 2), .int .i64 ((y1 + 1) / 2 - y0 / 2)]) ∧ Below w.heap.size w w' := by
  have hB : Below w.heap.size w (w.alloc (.cells #[.int .i64 x0, .int .i64 y0, .int .i64 x1, .int .i64 y1] 58)) := (Below.refl _ _).alloc (Nat.le_refl _) _
  have R0 : (w.alloc (.cells #[.int .i64 x0, .int .i64 y0, .int .i64 x1, .int .i64 y1] 58)).cell? ⟨w.heap.size, 0, none⟩ = some (.int .i64 x0) := by first | (simp; done) | go_simp
  have R1 : (w.alloc (.cells #[.int .i64 x0, .int .i64 y0, .int .i64 x1, .int .i64 y1] 58)).cell? ⟨w.heap.size, 1, none⟩ = some (.int .i64 y0) := by first | (simp; done) | go_simp
  have R2 : (w.alloc (.cells #[.int .i64 x0, .int .i64 y0, .int .i64 x1, .int .i64 y1] 58)).cell? ⟨w.heap.size, 2, none⟩ = some (.int .i64 x1) := by first | (simp; done) | go_simp
  have R3 : (w.alloc (.cells #[.int .i64 x0, .int .i64 y0, .int .i64 x1, .int .i64 y1] 58)).cell? ⟨w.heap.size, 3, none⟩ = some (.int .i64 y1) := by first | (simp; done) | go_simp
  go_enter Try.func46, Try.ntmps46
  go_wp2_with fail
  generalize w.alloc (.cells #[.int .i64 x0, .int .i64 y0, .int .i64 x1, .int .i64 y1] 58) = W0 at *
  have P0 : Below W0.heap.size W0 W0.drew := (Below.refl _ _).drew
  have toS : ∀ W' : World, Below W0.heap.size W0 W' → (W'.cell? ⟨w.heap.size, 0, none⟩ = some (.int .i64 x0) ∧ W'.cell? ⟨w.heap.size, 1, none⟩ = some (.int .i64 y0) ∧ W'.cell? ⟨w.heap.size, 2, none⟩ = some (.int .i64 x1) ∧ W'.cell? ⟨w.heap.size, 3, none⟩ = some (.int .i64 y1)) := fun W' h => ⟨cell_kept R0 h, cell_kept R1 h, cell_kept R2 h, cell_kept R3 h⟩
  have TOS := Lib.hid toS
  clear toS
  have hzN := hB.size
  refine wp_region_held_drew (S := fun w' => w'.cell? ⟨w.heap.size, 0, none⟩ = some (.int .i64 x0) ∧ w'.cell? ⟨w.heap.size, 1, none⟩ = some (.int .i64 y0) ∧ w'.cell? ⟨w.heap.size, 2, none⟩ = some (.int .i64 x1) ∧ w'.cell? ⟨w.heap.size, 3, none⟩ = some (.int .i64 y1)) (by kernel_rfl) ?_ (fun hHeld => ?_)
  · (first | (refine TOS.out _ ?_; first | with_reducible exact P2 | with_reducible exact P1 | with_reducible exact P0))
  refine wpAnyH_take (i := 0) (oi := _) (v := ?vr3_0) rfl (by kernel_rfl) (by kernel_rfl) (by kernel_rfl) (fun _ _ _ h => h) (Or.inl ⟨by rfl, ?hyr3_0⟩) (by assumption) ?restr3_0
  case hyr3_0 => (intro w hSw; (try dsimp only at hSw); go_simp <;> with_reducible rfl)
  try simp only [Act.put, List.getElem_toArray, List.getElem_cons_succ, List.getElem_cons_zero, List.setIfInBounds_toArray, List.set_cons_zero, List.set_cons_succ]
  refine wpAnyH_take (i := 2) (oi := _) (v := ?vr3_2) rfl (by kernel_rfl) (by kernel_rfl) (by kernel_rfl) (fun _ _ _ h => h) (Or.inl ⟨by rfl, ?hyr3_2⟩) (by assumption) ?restr3_2
  case hyr3_2 => (intro w hSw; (try dsimp only at hSw); go_simp <;> with_reducible rfl)
  try simp only [Act.put, List.getElem_toArray, List.getElem_cons_succ, List.getElem_cons_zero, List.setIfInBounds_toArray, List.set_cons_zero, List.set_cons_succ]
  refine wpAnyH_ready (rs := [1]) (by kernel_rfl) (by simp) ?_
  refine AllReadyH.cons (o := _) rfl (fun K hK => ?_) AllReadyH.nil
  go_simp
  (go_at_call 55; refine (dx_any x0 y0 x1 y1 _ (by omega) (by omega)).mono ?_; rintro e v1' ⟨rfl, hq1⟩; have P1 : Below W0.heap.size W0 v1' := P0.trans (hq1.mono P0.size))
  refine hK.out _ _ ?_ (fun hHeld => ?_)
  · (first | (refine TOS.out _ ?_; first | with_reducible exact P2 | with_reducible exact P1 | with_reducible exact P0))
  clear hK K
  try simp only [Act.put, List.getElem_toArray, List.getElem_cons_succ, List.getElem_cons_zero, List.setIfInBounds_toArray, List.set_cons_zero, List.set_cons_succ]
  refine wpAnyH_ready (rs := [3]) (by kernel_rfl) (by simp) ?_
  refine AllReadyH.cons (o := _) rfl (fun K hK => ?_) AllReadyH.nil
  go_simp
  (go_at_call 56; refine (dy_any x0 y0 x1 y1 _ (by omega) (by omega)).mono ?_; rintro e v2' ⟨rfl, hq2⟩; have P2 : Below W0.heap.size W0 v2' := P1.trans (hq2.mono P1.size))
  refine hK.out _ _ ?_ (fun hHeld => ?_)
  · (first | (refine TOS.out _ ?_; first | with_reducible exact P2 | with_reducible exact P1 | with_reducible exact P0))
  clear hK K
  try simp only [Act.put, List.getElem_toArray, List.getElem_cons_succ, List.getElem_cons_zero, List.setIfInBounds_toArray, List.set_cons_zero, List.set_cons_succ]
  refine wpAnyH_take (i := 4) (oi := _) (v := ?vr3_4) rfl (by kernel_rfl) (by kernel_rfl) (by kernel_rfl) (fun _ _ _ h => h) (Or.inl ⟨by rfl, ?hyr3_4⟩) (by assumption) ?restr3_4
  case hyr3_4 => (intro w hSw; (try dsimp only at hSw); go_simp <;> with_reducible rfl)
  try simp only [Act.put, List.getElem_toArray, List.getElem_cons_succ, List.getElem_cons_zero, List.setIfInBounds_toArray, List.set_cons_zero, List.set_cons_succ]
  refine wpAnyH_take (i := 5) (oi := _) (v := ?vr3_5) rfl (by kernel_rfl) (by kernel_rfl) (by kernel_rfl) (fun _ _ _ h => h) (Or.inl ⟨by rfl, ?hyr3_5⟩) (by assumption) ?restr3_5
  case hyr3_5 => (intro w hSw; (try dsimp only at hSw); go_simp <;> with_reducible rfl)
  try simp only [Act.put, List.getElem_toArray, List.getElem_cons_succ, List.getElem_cons_zero, List.setIfInBounds_toArray, List.set_cons_zero, List.set_cons_succ]
  refine wpAnyH_done (by kernel_rfl) ?_ _
  have hBn := P2
  clear TOS hHeld P0 hzN
  replace R0 := cell_kept R0 hBn
  replace R1 := cell_kept R1 hBn
  replace R2 := cell_kept R2 hBn
  replace R3 := cell_kept R3 hBn
  replace hB := hB.trans (hBn.mono hB.size)
  clear hBn hq1 hq2 P1 P2
  go_wp2
  exact bodyPost_ret (v := .tuple #[.int .i64 (x1 - x0), .int .i64 (y1 - y0), .int .i64 ((x1 + 1) / 2 - x0 / 2), .int .i64 ((y1 + 1) / 2 - y0 / 2)]) (by first | (simp [results, Try.results46, go_sem]; done) | (simp [results, Try.results46, go_sem]; omega)) rfl ⟨rfl, hB⟩

set_option maxRecDepth 100000 in
set_option maxHeartbeats 2000000 in
theorem size_3 (x0 y0 x1 y1 : Int) (w : World) (n1 : 0 ≤ x0) (n2 : 0 ≤ y0) (n3 : x0 ≤ x1) (n4 : y0 ≤ y1) (n5 : x1 ≤ 1099511627776) (n6 : y1 ≤ 1099511627776) :
    Calls Try.prog 46 #[.agg #[.int .i64 x0, .int .i64 y0, .int .i64 x1, .int .i64 y1], .int .i64 3] w fun e w' => e = .returned (.tuple #[.int .i64 (x1 - x0), .int .i64 (y1 - y0), .int .i64 (x1 - x0), .int .i64 ((y1 + 1) / 2 - y0 / 2)]) ∧ Below w.heap.size w w' := by
  have hB : Below w.heap.size w (w.alloc (.cells #[.int .i64 x0, .int .i64 y0, .int .i64 x1, .int .i64 y1] 58)) := (Below.refl _ _).alloc (Nat.le_refl _) _
  have R0 : (w.alloc (.cells #[.int .i64 x0, .int .i64 y0, .int .i64 x1, .int .i64 y1] 58)).cell? ⟨w.heap.size, 0, none⟩ = some (.int .i64 x0) := by first | (simp; done) | go_simp
  have R1 : (w.alloc (.cells #[.int .i64 x0, .int .i64 y0, .int .i64 x1, .int .i64 y1] 58)).cell? ⟨w.heap.size, 1, none⟩ = some (.int .i64 y0) := by first | (simp; done) | go_simp
  have R2 : (w.alloc (.cells #[.int .i64 x0, .int .i64 y0, .int .i64 x1, .int .i64 y1] 58)).cell? ⟨w.heap.size, 2, none⟩ = some (.int .i64 x1) := by first | (simp; done) | go_simp
  have R3 : (w.alloc (.cells #[.int .i64 x0, .int .i64 y0, .int .i64 x1, .int .i64 y1] 58)).cell? ⟨w.heap.size, 3, none⟩ = some (.int .i64 y1) := by first | (simp; done) | go_simp
  go_enter Try.func46, Try.ntmps46
  go_wp2_with fail
  generalize w.alloc (.cells #[.int .i64 x0, .int .i64 y0, .int .i64 x1, .int .i64 y1] 58) = W0 at *
  have P0 : Below W0.heap.size W0 W0.drew := (Below.refl _ _).drew
  have toS : ∀ W' : World, Below W0.heap.size W0 W' → (W'.cell? ⟨w.heap.size, 0, none⟩ = some (.int .i64 x0) ∧ W'.cell? ⟨w.heap.size, 1, none⟩ = some (.int .i64 y0) ∧ W'.cell? ⟨w.heap.size, 2, none⟩ = some (.int .i64 x1) ∧ W'.cell? ⟨w.heap.size, 3, none⟩ = some (.int .i64 y1)) := fun W' h => ⟨cell_kept R0 h, cell_kept R1 h, cell_kept R2 h, cell_kept R3 h⟩
  have TOS := Lib.hid toS
  clear toS
  have hzN := hB.size
  refine wp_region_held_drew (S := fun w' => w'.cell? ⟨w.heap.size, 0, none⟩ = some (.int .i64 x0) ∧ w'.cell? ⟨w.heap.size, 1, none⟩ = some (.int .i64 y0) ∧ w'.cell? ⟨w.heap.size, 2, none⟩ = some (.int .i64 x1) ∧ w'.cell? ⟨w.heap.size, 3, none⟩ = some (.int .i64 y1)) (by kernel_rfl) ?_ (fun hHeld => ?_)
  · (first | (refine TOS.out _ ?_; first | with_reducible exact P2 | with_reducible exact P1 | with_reducible exact P0))
  refine wpAnyH_take (i := 0) (oi := _) (v := ?vr4_0) rfl (by kernel_rfl) (by kernel_rfl) (by kernel_rfl) (fun _ _ _ h => h) (Or.inl ⟨by rfl, ?hyr4_0⟩) (by assumption) ?restr4_0
  case hyr4_0 => (intro w hSw; (try dsimp only at hSw); go_simp <;> with_reducible rfl)
  try simp only [Act.put, List.getElem_toArray, List.getElem_cons_succ, List.getElem_cons_zero, List.setIfInBounds_toArray, List.set_cons_zero, List.set_cons_succ]
  refine wpAnyH_take (i := 2) (oi := _) (v := ?vr4_2) rfl (by kernel_rfl) (by kernel_rfl) (by kernel_rfl) (fun _ _ _ h => h) (Or.inl ⟨by rfl, ?hyr4_2⟩) (by assumption) ?restr4_2
  case hyr4_2 => (intro w hSw; (try dsimp only at hSw); go_simp <;> with_reducible rfl)
  try simp only [Act.put, List.getElem_toArray, List.getElem_cons_succ, List.getElem_cons_zero, List.setIfInBounds_toArray, List.set_cons_zero, List.set_cons_succ]
  refine wpAnyH_ready (rs := [1]) (by kernel_rfl) (by simp) ?_
  refine AllReadyH.cons (o := _) rfl (fun K hK => ?_) AllReadyH.nil
  go_simp
  (go_at_call 55; refine (dx_any x0 y0 x1 y1 _ (by omega) (by omega)).mono ?_; rintro e v1' ⟨rfl, hq1⟩; have P1 : Below W0.heap.size W0 v1' := P0.trans (hq1.mono P0.size))
  refine hK.out _ _ ?_ (fun hHeld => ?_)
  · (first | (refine TOS.out _ ?_; first | with_reducible exact P2 | with_reducible exact P1 | with_reducible exact P0))
  clear hK K
  try simp only [Act.put, List.getElem_toArray, List.getElem_cons_succ, List.getElem_cons_zero, List.setIfInBounds_toArray, List.set_cons_zero, List.set_cons_succ]
  refine wpAnyH_ready (rs := [3]) (by kernel_rfl) (by simp) ?_
  refine AllReadyH.cons (o := _) rfl (fun K hK => ?_) AllReadyH.nil
  go_simp
  (go_at_call 56; refine (dy_any x0 y0 x1 y1 _ (by omega) (by omega)).mono ?_; rintro e v2' ⟨rfl, hq2⟩; have P2 : Below W0.heap.size W0 v2' := P1.trans (hq2.mono P1.size))
  refine hK.out _ _ ?_ (fun hHeld => ?_)
  · (first | (refine TOS.out _ ?_; first | with_reducible exact P2 | with_reducible exact P1 | with_reducible exact P0))
  clear hK K
  try simp only [Act.put, List.getElem_toArray, List.getElem_cons_succ, List.getElem_cons_zero, List.setIfInBounds_toArray, List.set_cons_zero, List.set_cons_succ]
  refine wpAnyH_take (i := 4) (oi := _) (v := ?vr4_4) rfl (by kernel_rfl) (by kernel_rfl) (by kernel_rfl) (fun _ _ _ h => h) (Or.inl ⟨by rfl, ?hyr4_4⟩) (by assumption) ?restr4_4
  case hyr4_4 => (intro w hSw; (try dsimp only at hSw); go_simp <;> with_reducible rfl)
  try simp only [Act.put, List.getElem_toArray, List.getElem_cons_succ, List.getElem_cons_zero, List.setIfInBounds_toArray, List.set_cons_zero, List.set_cons_succ]
  refine wpAnyH_take (i := 5) (oi := _) (v := ?vr4_5) rfl (by kernel_rfl) (by kernel_rfl) (by kernel_rfl) (fun _ _ _ h => h) (Or.inl ⟨by rfl, ?hyr4_5⟩) (by assumption) ?restr4_5
  case hyr4_5 => (intro w hSw; (try dsimp only at hSw); go_simp <;> with_reducible rfl)
  try simp only [Act.put, List.getElem_toArray, List.getElem_cons_succ, List.getElem_cons_zero, List.setIfInBounds_toArray, List.set_cons_zero, List.set_cons_succ]
  refine wpAnyH_done (by kernel_rfl) ?_ _
  have hBn := P2
  clear TOS hHeld P0 hzN
  replace R0 := cell_kept R0 hBn
  replace R1 := cell_kept R1 hBn
  replace R2 := cell_kept R2 hBn
  replace R3 := cell_kept R3 hBn
  replace hB := hB.trans (hBn.mono hB.size)
  clear hBn hq1 hq2 P1 P2
  go_wp2
  exact bodyPost_ret (v := .tuple #[.int .i64 (x1 - x0), .int .i64 (y1 - y0), .int .i64 (x1 - x0), .int .i64 ((y1 + 1) / 2 - y0 / 2)]) (by first | (simp [results, Try.results46, go_sem]; done) | (simp [results, Try.results46, go_sem]; omega)) rfl ⟨rfl, hB⟩

set_option maxRecDepth 100000 in
set_option maxHeartbeats 2000000 in
theorem size_4 (x0 y0 x1 y1 : Int) (w : World) (n1 : 0 ≤ x0) (n2 : 0 ≤ y0) (n3 : x0 ≤ x1) (n4 : y0 ≤ y1) (n5 : x1 ≤ 1099511627776) (n6 : y1 ≤ 1099511627776) :
    Calls Try.prog 46 #[.agg #[.int .i64 x0, .int .i64 y0, .int .i64 x1, .int .i64 y1], .int .i64 4] w fun e w' => e = .returned (.tuple #[.int .i64 (x1 - x0), .int .i64 (y1 - y0), .int .i64 ((x1 + 3) / 4 - x0 / 4), .int .i64 (y1 - y0)]) ∧ Below w.heap.size w w' := by
  have hB : Below w.heap.size w (w.alloc (.cells #[.int .i64 x0, .int .i64 y0, .int .i64 x1, .int .i64 y1] 58)) := (Below.refl _ _).alloc (Nat.le_refl _) _
  have R0 : (w.alloc (.cells #[.int .i64 x0, .int .i64 y0, .int .i64 x1, .int .i64 y1] 58)).cell? ⟨w.heap.size, 0, none⟩ = some (.int .i64 x0) := by first | (simp; done) | go_simp
  have R1 : (w.alloc (.cells #[.int .i64 x0, .int .i64 y0, .int .i64 x1, .int .i64 y1] 58)).cell? ⟨w.heap.size, 1, none⟩ = some (.int .i64 y0) := by first | (simp; done) | go_simp
  have R2 : (w.alloc (.cells #[.int .i64 x0, .int .i64 y0, .int .i64 x1, .int .i64 y1] 58)).cell? ⟨w.heap.size, 2, none⟩ = some (.int .i64 x1) := by first | (simp; done) | go_simp
  have R3 : (w.alloc (.cells #[.int .i64 x0, .int .i64 y0, .int .i64 x1, .int .i64 y1] 58)).cell? ⟨w.heap.size, 3, none⟩ = some (.int .i64 y1) := by first | (simp; done) | go_simp
  go_enter Try.func46, Try.ntmps46
  go_wp2_with fail
  generalize w.alloc (.cells #[.int .i64 x0, .int .i64 y0, .int .i64 x1, .int .i64 y1] 58) = W0 at *
  have P0 : Below W0.heap.size W0 W0.drew := (Below.refl _ _).drew
  have toS : ∀ W' : World, Below W0.heap.size W0 W' → (W'.cell? ⟨w.heap.size, 0, none⟩ = some (.int .i64 x0) ∧ W'.cell? ⟨w.heap.size, 1, none⟩ = some (.int .i64 y0) ∧ W'.cell? ⟨w.heap.size, 2, none⟩ = some (.int .i64 x1) ∧ W'.cell? ⟨w.heap.size, 3, none⟩ = some (.int .i64 y1)) := fun W' h => ⟨cell_kept R0 h, cell_kept R1 h, cell_kept R2 h, cell_kept R3 h⟩
  have TOS := Lib.hid toS
  clear toS
  have hzN := hB.size
  refine wp_region_held_drew (S := fun w' => w'.cell? ⟨w.heap.size, 0, none⟩ = some (.int .i64 x0) ∧ w'.cell? ⟨w.heap.size, 1, none⟩ = some (.int .i64 y0) ∧ w'.cell? ⟨w.heap.size, 2, none⟩ = some (.int .i64 x1) ∧ w'.cell? ⟨w.heap.size, 3, none⟩ = some (.int .i64 y1)) (by kernel_rfl) ?_ (fun hHeld => ?_)
  · (first | (refine TOS.out _ ?_; first | with_reducible exact P2 | with_reducible exact P1 | with_reducible exact P0))
  refine wpAnyH_take (i := 0) (oi := _) (v := ?vr5_0) rfl (by kernel_rfl) (by kernel_rfl) (by kernel_rfl) (fun _ _ _ h => h) (Or.inl ⟨by rfl, ?hyr5_0⟩) (by assumption) ?restr5_0
  case hyr5_0 => (intro w hSw; (try dsimp only at hSw); go_simp <;> with_reducible rfl)
  try simp only [Act.put, List.getElem_toArray, List.getElem_cons_succ, List.getElem_cons_zero, List.setIfInBounds_toArray, List.set_cons_zero, List.set_cons_succ]
  refine wpAnyH_take (i := 2) (oi := _) (v := ?vr5_2) rfl (by kernel_rfl) (by kernel_rfl) (by kernel_rfl) (fun _ _ _ h => h) (Or.inl ⟨by rfl, ?hyr5_2⟩) (by assumption) ?restr5_2
  case hyr5_2 => (intro w hSw; (try dsimp only at hSw); go_simp <;> with_reducible rfl)
  try simp only [Act.put, List.getElem_toArray, List.getElem_cons_succ, List.getElem_cons_zero, List.setIfInBounds_toArray, List.set_cons_zero, List.set_cons_succ]
  refine wpAnyH_ready (rs := [1]) (by kernel_rfl) (by simp) ?_
  refine AllReadyH.cons (o := _) rfl (fun K hK => ?_) AllReadyH.nil
  go_simp
  (go_at_call 55; refine (dx_any x0 y0 x1 y1 _ (by omega) (by omega)).mono ?_; rintro e v1' ⟨rfl, hq1⟩; have P1 : Below W0.heap.size W0 v1' := P0.trans (hq1.mono P0.size))
  refine hK.out _ _ ?_ (fun hHeld => ?_)
  · (first | (refine TOS.out _ ?_; first | with_reducible exact P2 | with_reducible exact P1 | with_reducible exact P0))
  clear hK K
  try simp only [Act.put, List.getElem_toArray, List.getElem_cons_succ, List.getElem_cons_zero, List.setIfInBounds_toArray, List.set_cons_zero, List.set_cons_succ]
  refine wpAnyH_ready (rs := [3]) (by kernel_rfl) (by simp) ?_
  refine AllReadyH.cons (o := _) rfl (fun K hK => ?_) AllReadyH.nil
  go_simp
  (go_at_call 56; refine (dy_any x0 y0 x1 y1 _ (by omega) (by omega)).mono ?_; rintro e v2' ⟨rfl, hq2⟩; have P2 : Below W0.heap.size W0 v2' := P1.trans (hq2.mono P1.size))
  refine hK.out _ _ ?_ (fun hHeld => ?_)
  · (first | (refine TOS.out _ ?_; first | with_reducible exact P2 | with_reducible exact P1 | with_reducible exact P0))
  clear hK K
  try simp only [Act.put, List.getElem_toArray, List.getElem_cons_succ, List.getElem_cons_zero, List.setIfInBounds_toArray, List.set_cons_zero, List.set_cons_succ]
  refine wpAnyH_take (i := 4) (oi := _) (v := ?vr5_4) rfl (by kernel_rfl) (by kernel_rfl) (by kernel_rfl) (fun _ _ _ h => h) (Or.inl ⟨by rfl, ?hyr5_4⟩) (by assumption) ?restr5_4
  case hyr5_4 => (intro w hSw; (try dsimp only at hSw); go_simp <;> with_reducible rfl)
  try simp only [Act.put, List.getElem_toArray, List.getElem_cons_succ, List.getElem_cons_zero, List.setIfInBounds_toArray, List.set_cons_zero, List.set_cons_succ]
  refine wpAnyH_take (i := 5) (oi := _) (v := ?vr5_5) rfl (by kernel_rfl) (by kernel_rfl) (by kernel_rfl) (fun _ _ _ h => h) (Or.inl ⟨by rfl, ?hyr5_5⟩) (by assumption) ?restr5_5
  case hyr5_5 => (intro w hSw; (try dsimp only at hSw); go_simp <;> with_reducible rfl)
  try simp only [Act.put, List.getElem_toArray, List.getElem_cons_succ, List.getElem_cons_zero, List.setIfInBounds_toArray, List.set_cons_zero, List.set_cons_succ]
  refine wpAnyH_done (by kernel_rfl) ?_ _
  have hBn := P2
  clear TOS hHeld P0 hzN
  replace R0 := cell_kept R0 hBn
  replace R1 := cell_kept R1 hBn
  replace R2 := cell_kept R2 hBn
  replace R3 := cell_kept R3 hBn
  replace hB := hB.trans (hBn.mono hB.size)
  clear hBn hq1 hq2 P1 P2
  go_wp2
  exact bodyPost_ret (v := .tuple #[.int .i64 (x1 - x0), .int .i64 (y1 - y0), .int .i64 ((x1 + 3) / 4 - x0 / 4), .int .i64 (y1 - y0)]) (by first | (simp [results, Try.results46, go_sem]; done) | (simp [results, Try.results46, go_sem]; omega)) rfl ⟨rfl, hB⟩

set_option maxRecDepth 100000 in
set_option maxHeartbeats 2000000 in
theorem size_5 (x0 y0 x1 y1 : Int) (w : World) (n1 : 0 ≤ x0) (n2 : 0 ≤ y0) (n3 : x0 ≤ x1) (n4 : y0 ≤ y1) (n5 : x1 ≤ 1099511627776) (n6 : y1 ≤ 1099511627776) :
    Calls Try.prog 46 #[.agg #[.int .i64 x0, .int .i64 y0, .int .i64 x1, .int .i64 y1], .int .i64 5] w fun e w' => e = .returned (.tuple #[.int .i64 (x1 - x0), .int .i64 (y1 - y0), .int .i64 ((x1 + 3) / 4 - x0 / 4), .int .i64 ((y1 + 1) / 2 - y0 / 2)]) ∧ Below w.heap.size w w' := by
  have hB : Below w.heap.size w (w.alloc (.cells #[.int .i64 x0, .int .i64 y0, .int .i64 x1, .int .i64 y1] 58)) := (Below.refl _ _).alloc (Nat.le_refl _) _
  have R0 : (w.alloc (.cells #[.int .i64 x0, .int .i64 y0, .int .i64 x1, .int .i64 y1] 58)).cell? ⟨w.heap.size, 0, none⟩ = some (.int .i64 x0) := by first | (simp; done) | go_simp
  have R1 : (w.alloc (.cells #[.int .i64 x0, .int .i64 y0, .int .i64 x1, .int .i64 y1] 58)).cell? ⟨w.heap.size, 1, none⟩ = some (.int .i64 y0) := by first | (simp; done) | go_simp
  have R2 : (w.alloc (.cells #[.int .i64 x0, .int .i64 y0, .int .i64 x1, .int .i64 y1] 58)).cell? ⟨w.heap.size, 2, none⟩ = some (.int .i64 x1) := by first | (simp; done) | go_simp
  have R3 : (w.alloc (.cells #[.int .i64 x0, .int .i64 y0, .int .i64 x1, .int .i64 y1] 58)).cell? ⟨w.heap.size, 3, none⟩ = some (.int .i64 y1) := by first | (simp; done) | go_simp
  go_enter Try.func46, Try.ntmps46
  go_wp2_with fail
  generalize w.alloc (.cells #[.int .i64 x0, .int .i64 y0, .int .i64 x1, .int .i64 y1] 58) = W0 at *
  have P0 : Below W0.heap.size W0 W0.drew := (Below.refl _ _).drew
  have toS : ∀ W' : World, Below W0.heap.size W0 W' → (W'.cell? ⟨w.heap.size, 0, none⟩ = some (.int .i64 x0) ∧ W'.cell? ⟨w.heap.size, 1, none⟩ = some (.int .i64 y0) ∧ W'.cell? ⟨w.heap.size, 2, none⟩ = some (.int .i64 x1) ∧ W'.cell? ⟨w.heap.size, 3, none⟩ = some (.int .i64 y1)) := fun W' h => ⟨cell_kept R0 h, cell_kept R1 h, cell_kept R2 h, cell_kept R3 h⟩
  have TOS := Lib.hid toS
  clear toS
  have hzN := hB.size
  refine wp_region_held_drew (S := fun w' => w'.cell? ⟨w.heap.size, 0, none⟩ = some (.int .i64 x0) ∧ w'.cell? ⟨w.heap.size, 1, none⟩ = some (.int .i64 y0) ∧ w'.cell? ⟨w.heap.size, 2, none⟩ = some (.int .i64 x1) ∧ w'.cell? ⟨w.heap.size, 3, none⟩ = some (.int .i64 y1)) (by kernel_rfl) ?_ (fun hHeld => ?_)
  · (first | (refine TOS.out _ ?_; first | with_reducible exact P2 | with_reducible exact P1 | with_reducible exact P0))
  refine wpAnyH_take (i := 0) (oi := _) (v := ?vr6_0) rfl (by kernel_rfl) (by kernel_rfl) (by kernel_rfl) (fun _ _ _ h => h) (Or.inl ⟨by rfl, ?hyr6_0⟩) (by assumption) ?restr6_0
  case hyr6_0 => (intro w hSw; (try dsimp only at hSw); go_simp <;> with_reducible rfl)
  try simp only [Act.put, List.getElem_toArray, List.getElem_cons_succ, List.getElem_cons_zero, List.setIfInBounds_toArray, List.set_cons_zero, List.set_cons_succ]
  refine wpAnyH_take (i := 2) (oi := _) (v := ?vr6_2) rfl (by kernel_rfl) (by kernel_rfl) (by kernel_rfl) (fun _ _ _ h => h) (Or.inl ⟨by rfl, ?hyr6_2⟩) (by assumption) ?restr6_2
  case hyr6_2 => (intro w hSw; (try dsimp only at hSw); go_simp <;> with_reducible rfl)
  try simp only [Act.put, List.getElem_toArray, List.getElem_cons_succ, List.getElem_cons_zero, List.setIfInBounds_toArray, List.set_cons_zero, List.set_cons_succ]
  refine wpAnyH_ready (rs := [1]) (by kernel_rfl) (by simp) ?_
  refine AllReadyH.cons (o := _) rfl (fun K hK => ?_) AllReadyH.nil
  go_simp
  (go_at_call 55; refine (dx_any x0 y0 x1 y1 _ (by omega) (by omega)).mono ?_; rintro e v1' ⟨rfl, hq1⟩; have P1 : Below W0.heap.size W0 v1' := P0.trans (hq1.mono P0.size))
  refine hK.out _ _ ?_ (fun hHeld => ?_)
  · (first | (refine TOS.out _ ?_; first | with_reducible exact P2 | with_reducible exact P1 | with_reducible exact P0))
  clear hK K
  try simp only [Act.put, List.getElem_toArray, List.getElem_cons_succ, List.getElem_cons_zero, List.setIfInBounds_toArray, List.set_cons_zero, List.set_cons_succ]
  refine wpAnyH_ready (rs := [3]) (by kernel_rfl) (by simp) ?_
  refine AllReadyH.cons (o := _) rfl (fun K hK => ?_) AllReadyH.nil
  go_simp
  (go_at_call 56; refine (dy_any x0 y0 x1 y1 _ (by omega) (by omega)).mono ?_; rintro e v2' ⟨rfl, hq2⟩; have P2 : Below W0.heap.size W0 v2' := P1.trans (hq2.mono P1.size))
  refine hK.out _ _ ?_ (fun hHeld => ?_)
  · (first | (refine TOS.out _ ?_; first | with_reducible exact P2 | with_reducible exact P1 | with_reducible exact P0))
  clear hK K
  try simp only [Act.put, List.getElem_toArray, List.getElem_cons_succ, List.getElem_cons_zero, List.setIfInBounds_toArray, List.set_cons_zero, List.set_cons_succ]
  refine wpAnyH_take (i := 4) (oi := _) (v := ?vr6_4) rfl (by kernel_rfl) (by kernel_rfl) (by kernel_rfl) (fun _ _ _ h => h) (Or.inl ⟨by rfl, ?hyr6_4⟩) (by assumption) ?restr6_4
  case hyr6_4 => (intro w hSw; (try dsimp only at hSw); go_simp <;> with_reducible rfl)
  try simp only [Act.put, List.getElem_toArray, List.getElem_cons_succ, List.getElem_cons_zero, List.setIfInBounds_toArray, List.set_cons_zero, List.set_cons_succ]
  refine wpAnyH_take (i := 5) (oi := _) (v := ?vr6_5) rfl (by kernel_rfl) (by kernel_rfl) (by kernel_rfl) (fun _ _ _ h => h) (Or.inl ⟨by rfl, ?hyr6_5⟩) (by assumption) ?restr6_5
  case hyr6_5 => (intro w hSw; (try dsimp only at hSw); go_simp <;> with_reducible rfl)
  try simp only [Act.put, List.getElem_toArray, List.getElem_cons_succ, List.getElem_cons_zero, List.setIfInBounds_toArray, List.set_cons_zero, List.set_cons_succ]
  refine wpAnyH_done (by kernel_rfl) ?_ _
  have hBn := P2
  clear TOS hHeld P0 hzN
  replace R0 := cell_kept R0 hBn
  replace R1 := cell_kept R1 hBn
  replace R2 := cell_kept R2 hBn
  replace R3 := cell_kept R3 hBn
  replace hB := hB.trans (hBn.mono hB.size)
  clear hBn hq1 hq2 P1 P2
  go_wp2
  exact bodyPost_ret (v := .tuple #[.int .i64 (x1 - x0), .int .i64 (y1 - y0), .int .i64 ((x1 + 3) / 4 - x0 / 4), .int .i64 ((y1 + 1) / 2 - y0 / 2)]) (by first | (simp [results, Try.results46, go_sem]; done) | (simp [results, Try.results46, go_sem]; omega)) rfl ⟨rfl, hB⟩

theorem size_any (x0 y0 x1 y1 rt : Int) (w : World) (n1 : 0 ≤ x0) (n2 : 0 ≤ y0) (n3 : x0 ≤ x1) (n4 : y0 ≤ y1) (n5 : x1 ≤ 1099511627776) (n6 : y1 ≤ 1099511627776) (r0 : 0 ≤ rt) (r5 : rt ≤ 5) :
    Calls Try.prog 46 #[.agg #[.int .i64 x0, .int .i64 y0, .int .i64 x1, .int .i64 y1], .int .i64 rt] w fun e w' => e = .returned (.tuple #[.int .i64 (x1 - x0), .int .i64 (y1 - y0), .int .i64 (cwOf rt x0 x1), .int .i64 (chOf rt y0 y1)]) ∧ Below w.heap.size w w' := by
  rcases ratio_cases r0 r5 with rfl | rfl | rfl | rfl | rfl | rfl
  · have e1 : cwOf 0 x0 x1 = x1 - x0 := by simp [cwOf, show stW 0 = 1 from rfl]
    have e2 : chOf 0 y0 y1 = y1 - y0 := by simp [chOf, show stH 0 = 1 from rfl]
    rw [e1, e2]
    exact size_0 x0 y0 x1 y1 w n1 n2 n3 n4 n5 n6
  · have e1 : cwOf 1 x0 x1 = (x1 + 1) / 2 - x0 / 2 := by simp [cwOf, show stW 1 = 2 from rfl]
    have e2 : chOf 1 y0 y1 = y1 - y0 := by simp [chOf, show stH 1 = 1 from rfl]
    rw [e1, e2]
    exact size_1 x0 y0 x1 y1 w n1 n2 n3 n4 n5 n6
  · have e1 : cwOf 2 x0 x1 = (x1 + 1) / 2 - x0 / 2 := by simp [cwOf, show stW 2 = 2 from rfl]
    have e2 : chOf 2 y0 y1 = (y1 + 1) / 2 - y0 / 2 := by simp [chOf, show stH 2 = 2 from rfl]
    rw [e1, e2]
    exact size_2 x0 y0 x1 y1 w n1 n2 n3 n4 n5 n6
  · have e1 : cwOf 3 x0 x1 = x1 - x0 := by simp [cwOf, show stW 3 = 1 from rfl]
    have e2 : chOf 3 y0 y1 = (y1 + 1) / 2 - y0 / 2 := by simp [chOf, show stH 3 = 2 from rfl]
    rw [e1, e2]
    exact size_3 x0 y0 x1 y1 w n1 n2 n3 n4 n5 n6
  · have e1 : cwOf 4 x0 x1 = (x1 + 3) / 4 - x0 / 4 := by simp [cwOf, show stW 4 = 4 from rfl]
    have e2 : chOf 4 y0 y1 = y1 - y0 := by simp [chOf, show stH 4 = 1 from rfl]
    rw [e1, e2]
    exact size_4 x0 y0 x1 y1 w n1 n2 n3 n4 n5 n6
  · have e1 : cwOf 5 x0 x1 = (x1 + 3) / 4 - x0 / 4 := by simp [cwOf, show stW 5 = 4 from rfl]
    have e2 : chOf 5 y0 y1 = (y1 + 1) / 2 - y0 / 2 := by simp [chOf, show stH 5 = 2 from rfl]
    rw [e1, e2]
    exact size_5 x0 y0 x1 y1 w n1 n2 n3 n4 n5 n6

theorem mul3_any (a b : Int) (w : World) (a0 : 0 ≤ a) (a1 : a ≤ 65537) (b0 : 0 ≤ b) (b1 : b ≤ 65537) (p0 : 0 ≤ a * b) (p1 : a * b ≤ 262144) :
    Calls Try.prog 48 #[.int .i64 2, .int .i64 a, .int .i64 b] w fun e w' => e = .returned (.int .i64 (2 * a * b)) ∧ w = w' := by
  have e1 : 2 * a * b = 2 * (a * b) := Int.mul_assoc _ _ _
  have q0 : 0 ≤ 2 * a * b := by omega
  have q1 : 2 * a * b ≤ 524288 := by omega
  have n1 : (2 * a * b != 2 * a * b) = false := by simp
  clear e1
  go_enter Try.func48, Try.ntmps48
  go_wp2_with fail
  refine (mul64_small 2 a _ (by omega) (by omega) (by omega) (by omega) (by omega) (by omega)).mono ?_
  rintro e w1 ⟨rfl, rfl⟩
  go_wp2_with fail
  refine (mul64_small (2 * a) b _ (by omega) (by omega) (by omega) (by omega) (by omega) (by omega)).mono ?_
  rintro e w1 ⟨rfl, rfl⟩
  go_wp2
  go_ret
  exact ⟨by simp, rfl⟩
theorem add2_any (a b : Int) (w : World) (a0 : 0 ≤ a) (a1 : a ≤ 1048576) (b0 : 0 ≤ b) (b1 : b ≤ 1048576) :
    Calls Try.prog 47 #[.int .i64 a, .int .i64 b] w fun e w' => e = .returned (.int .i64 (a + b)) ∧ w = w' := by
  go_enter Try.func47, Try.ntmps47
  go_wp2
  go_ret
  exact ⟨by simp, rfl⟩

/-- What NewNYCbCrA hands back. -/
def NewBack (z1 z2 z3 z4 : List Int) (rt ys cs at4 x0 y0 x1 y1 : Int) (w : World) (e : Ending) (w' : World) : Prop :=
  ∃ (g : Nat) (A1 A2 A3 A4 : Option Addr) (c1 c2 c3 c4 : Nat), e = .returned (.pointer (some ⟨g, 0, none⟩)) ∧ w'.heap[g]? = some (.cells #[.slice A1 z1.length c1, .slice A2 z2.length c2, .slice A3 z3.length c3, .int .i64 ys, .int .i64 cs, .int .i64 rt, .int .i64 x0, .int .i64 y0, .int .i64 x1, .int .i64 y1, .slice A4 z4.length c4, .int .i64 at4] 83 (0, 0)) ∧ Reads w' A1 z1 ∧ (A1 = none → c1 = 0) ∧ Reads w' A2 z2 ∧ (A2 = none → c2 = 0) ∧ Reads w' A3 z3 ∧ (A3 = none → c3 = 0) ∧ Reads w' A4 z4 ∧ (A4 = none → c4 = 0) ∧ Below w.heap.size w w'
theorem reads_made {W W' : World} {n o k : Nat} (hB : Below (W.alloc (.cells (madeCells #[.int .u8 0] n) 5)).heap.size (W.alloc (.cells (madeCells #[.int .u8 0] n) 5)) W') (h : o + k ≤ n) : Reads W' (some ⟨W.heap.size, o, none⟩) (zeros k) := by
  refine ⟨fun e => (by cases e), fun ad e j hj => ?_⟩
  injection e with e
  subst e
  rw [zeros_length] at hj
  have hc : (W.alloc (.cells (madeCells #[.int .u8 0] n) 5)).cell? ⟨W.heap.size, o + j, none⟩ = some (.int .u8 0) := by
    rw [cell_of_row _ _ _ _ _ _ (heap_alloc_new W (.cells (madeCells #[.int .u8 0] n) 5))]
    have h1 := made_zero n
    rw [← Array.getElem?_toList, h1]
    rw [List.getElem?_map, List.getElem?_replicate, if_pos (by omega)]
    rfl
  have hk := cell_kept hc hB
  rw [zeros_get]
  rcases Nat.eq_zero_or_pos j with rfl | hp
  · simpa [Addr.add] using hk
  · have e2 : (⟨W.heap.size, o, none⟩ : Addr).add j = ⟨W.heap.size, o + j, none⟩ := by unfold Addr.add; rw [if_neg (by omega)]
    rw [e2]
    exact hk
theorem reads_zero {W : World} (A : Option Addr) : Reads W A (zeros 0) := ⟨fun _ => rfl, fun ad e j hj => by simp [zeros] at hj⟩

set_option maxRecDepth 100000 in
set_option maxHeartbeats 2000000 in
theorem newK_full (x0 y0 x1 y1 rt : Int) (wd ht cw ch a c n i1 i2 : Nat) (HW : Hid (x1 - x0 = wd)) (HH : Hid (y1 - y0 = ht)) (HC : Hid (cwOf rt x0 x1 = cw)) (HD : Hid (chOf rt y0 y1 = ch)) (w1 : (wd : Int) ≤ 65536) (w2 : (ht : Int) ≤ 65536) (w3 : (cw : Int) ≤ 65537) (w4 : (ch : Int) ≤ 65537) (f1 : (wd : Int) * (ht : Int) = a) (f2 : 2 * (wd : Int) * (ht : Int) = 2 * a) (f3 : (cw : Int) * (ch : Int) = c) (f4 : 2 * (cw : Int) * (ch : Int) = 2 * c) (g1 : (a : Int) ≤ 65536) (g2 : (c : Int) ≤ 262144) (f5 : 2 * (a : Int) + 2 * (c : Int) = n) (f6 : (a : Int) + (c : Int) = i1) (f7 : (a : Int) + 2 * (c : Int) = i2) (ha : 0 < a) (hc : 0 < c) (w : World) (n1 : 0 ≤ x0) (n2 : 0 ≤ y0) (n3 : x0 ≤ x1) (n4 : y0 ≤ y1) (n5 : x1 ≤ 1099511627776) (n6 : y1 ≤ 1099511627776) (r0 : 0 ≤ rt) (r5 : rt ≤ 5) :
    Calls Try.prog 32 #[.agg #[.int .i64 x0, .int .i64 y0, .int .i64 x1, .int .i64 y1], .int .i64 rt] w (NewBack (zeros a) (zeros c) (zeros c) (zeros a) rt wd cw wd x0 y0 x1 y1 w) := by
  have hmk := run_make_row' (P := Try.prog) 28 5 (.int .u8 0) 1 Try.underlying28 info5 rfl .i64 .i64 n (by omega) (by omega)
  have s1 : ¬ a = 0 := by omega
  have s2 : ¬ c = 0 := by omega
  have s3 : i1 - a = c := by omega
  have s4 : i2 - i1 = c := by omega
  have s5 : n - i2 = a := by omega
  have s6 : ¬ i1 = a := by omega
  have s7 : ¬ i2 = i1 := by omega
  have s8 : ¬ n = i2 := by omega
  have l1 : (a : Int) ≤ n := by omega
  have l2 : (a : Int) ≤ i1 := by omega
  have l3 : (i1 : Int) ≤ n := by omega
  have l4 : (i1 : Int) ≤ i2 := by omega
  have l5 : (i2 : Int) ≤ n := by omega
  have l6 : (0 : Int) ≤ a := by omega
  have l7 : (0 : Int) ≤ i1 := by omega
  have l8 : (0 : Int) ≤ i2 := by omega
  have l9 : (n : Int) ≤ 9223372036854775807 := by omega
  have hB : Below w.heap.size w (w.alloc (.cells #[.int .i64 x0, .int .i64 y0, .int .i64 x1, .int .i64 y1] 58)) := (Below.refl _ _).alloc (Nat.le_refl _) _
  have R0 : (w.alloc (.cells #[.int .i64 x0, .int .i64 y0, .int .i64 x1, .int .i64 y1] 58)).cell? ⟨w.heap.size, 0, none⟩ = some (.int .i64 x0) := by first | (simp; done) | go_simp
  have R1 : (w.alloc (.cells #[.int .i64 x0, .int .i64 y0, .int .i64 x1, .int .i64 y1] 58)).cell? ⟨w.heap.size, 1, none⟩ = some (.int .i64 y0) := by first | (simp; done) | go_simp
  have R2 : (w.alloc (.cells #[.int .i64 x0, .int .i64 y0, .int .i64 x1, .int .i64 y1] 58)).cell? ⟨w.heap.size, 2, none⟩ = some (.int .i64 x1) := by first | (simp; done) | go_simp
  have R3 : (w.alloc (.cells #[.int .i64 x0, .int .i64 y0, .int .i64 x1, .int .i64 y1] 58)).cell? ⟨w.heap.size, 3, none⟩ = some (.int .i64 y1) := by first | (simp; done) | go_simp
  go_enter Try.func32, Try.ntmps32
  go_wp2_with fail
  generalize w.alloc (.cells #[.int .i64 x0, .int .i64 y0, .int .i64 x1, .int .i64 y1] 58) = W0 at *
  refine (size_any x0 y0 x1 y1 rt _ n1 n2 n3 n4 n5 n6 r0 r5).mono ?_
  rintro e w1 ⟨rfl, hb1⟩
  replace R0 := cell_kept R0 hb1
  replace R1 := cell_kept R1 hb1
  replace R2 := cell_kept R2 hb1
  replace R3 := cell_kept R3 hb1
  replace hB := hB.trans (hb1.mono hB.size)
  clear hb1
  rw [HW.out, HH.out, HC.out, HD.out]
  go_wp2_with fail
  refine (mul3_any (wd : Int) (ht : Int) _ (by omega) (by omega) (by omega) (by omega) (by omega) (by omega)).mono ?_
  rintro e w' ⟨rfl, rfl⟩
  go_wp2_with fail
  refine (mul3_any (cw : Int) (ch : Int) _ (by omega) (by omega) (by omega) (by omega) (by omega) (by omega)).mono ?_
  rintro e w' ⟨rfl, rfl⟩
  try rw [f2]
  try rw [f4]
  go_wp2_with fail
  refine (add2_any _ _ _ (by omega) (by omega) (by omega) (by omega)).mono ?_
  rintro e w' ⟨rfl, rfl⟩
  have aw : Below w1.heap.size w1 (w1.alloc (.cells (madeCells #[.int .u8 0] n) 5)) := (Below.refl _ _).alloc (Nat.le_refl _) _
  replace R0 := cell_kept R0 aw
  replace R1 := cell_kept R1 aw
  replace R2 := cell_kept R2 aw
  replace R3 := cell_kept R3 aw
  replace hB := hB.trans (aw.mono hB.size)
  clear aw
  have RD1 : Hid (∀ W', Below (w1.alloc (.cells (madeCells #[.int .u8 0] n) 5)).heap.size (w1.alloc (.cells (madeCells #[.int .u8 0] n) 5)) W' → Reads W' (some ⟨w1.heap.size, 0, none⟩) (zeros a)) := fun W' h => reads_made h (by omega)
  have RD2 : Hid (∀ W', Below (w1.alloc (.cells (madeCells #[.int .u8 0] n) 5)).heap.size (w1.alloc (.cells (madeCells #[.int .u8 0] n) 5)) W' → Reads W' (some ⟨w1.heap.size, a, none⟩) (zeros c)) := fun W' h => reads_made h (by omega)
  have RD3 : Hid (∀ W', Below (w1.alloc (.cells (madeCells #[.int .u8 0] n) 5)).heap.size (w1.alloc (.cells (madeCells #[.int .u8 0] n) 5)) W' → Reads W' (some ⟨w1.heap.size, i1, none⟩) (zeros c)) := fun W' h => reads_made h (by omega)
  have RD4 : Hid (∀ W', Below (w1.alloc (.cells (madeCells #[.int .u8 0] n) 5)).heap.size (w1.alloc (.cells (madeCells #[.int .u8 0] n) 5)) W' → Reads W' (some ⟨w1.heap.size, i2, none⟩) (zeros a)) := fun W' h => reads_made h (by omega)
  go_wp2_with fail
  generalize w1.alloc (.cells (madeCells #[.int .u8 0] n) 5) = WM at *
  generalize w1.heap.size = bm at *
  clear hmk f1 f2 f3 f4
  have P0 : Below WM.heap.size WM WM.drew := (Below.refl _ _).drew
  have toS : ∀ W' : World, Below WM.heap.size WM W' → (W'.cell? ⟨w.heap.size, 0, none⟩ = some (.int .i64 x0) ∧ W'.cell? ⟨w.heap.size, 1, none⟩ = some (.int .i64 y0) ∧ W'.cell? ⟨w.heap.size, 2, none⟩ = some (.int .i64 x1) ∧ W'.cell? ⟨w.heap.size, 3, none⟩ = some (.int .i64 y1)) := fun W' h => ⟨cell_kept R0 h, cell_kept R1 h, cell_kept R2 h, cell_kept R3 h⟩
  have TOS := Lib.hid toS
  clear toS
  refine wp_region_held_drew (S := fun w' => w'.cell? ⟨w.heap.size, 0, none⟩ = some (.int .i64 x0) ∧ w'.cell? ⟨w.heap.size, 1, none⟩ = some (.int .i64 y0) ∧ w'.cell? ⟨w.heap.size, 2, none⟩ = some (.int .i64 x1) ∧ w'.cell? ⟨w.heap.size, 3, none⟩ = some (.int .i64 y1)) (by kernel_rfl) ?_ (fun hHeld => ?_)
  · (exact TOS.out _ P0)
  refine wpAnyH_take (i := 0) (oi := _) (v := ?vr7_0) rfl (by kernel_rfl) (by kernel_rfl) (by kernel_rfl) (fun _ _ _ h => h) (Or.inl ⟨by rfl, ?hyr7_0⟩) (by assumption) ?restr7_0
  case hyr7_0 => (intro w hSw; (try dsimp only at hSw); go_simp <;> with_reducible rfl)
  try simp only [Act.put, List.getElem_toArray, List.getElem_cons_succ, List.getElem_cons_zero, List.setIfInBounds_toArray, List.set_cons_zero, List.set_cons_succ]
  refine wpAnyH_take (i := 1) (oi := _) (v := ?vr7_1) rfl (by kernel_rfl) (by kernel_rfl) (by kernel_rfl) (fun _ _ _ h => h) (Or.inl ⟨by rfl, ?hyr7_1⟩) (by assumption) ?restr7_1
  case hyr7_1 => (intro w hSw; (try dsimp only at hSw); go_simp <;> with_reducible rfl)
  try simp only [Act.put, List.getElem_toArray, List.getElem_cons_succ, List.getElem_cons_zero, List.setIfInBounds_toArray, List.set_cons_zero, List.set_cons_succ]
  refine wpAnyH_take (i := 2) (oi := _) (v := ?vr7_2) rfl (by kernel_rfl) (by kernel_rfl) (by kernel_rfl) (fun _ _ _ h => h) (Or.inl ⟨by rfl, ?hyr7_2⟩) (by assumption) ?restr7_2
  case hyr7_2 => (intro w hSw; (try dsimp only at hSw); go_simp <;> with_reducible rfl)
  try simp only [Act.put, List.getElem_toArray, List.getElem_cons_succ, List.getElem_cons_zero, List.setIfInBounds_toArray, List.set_cons_zero, List.set_cons_succ]
  refine wpAnyH_take (i := 3) (oi := _) (v := ?vr7_3) rfl (by kernel_rfl) (by kernel_rfl) (by kernel_rfl) (fun _ _ _ h => h) (Or.inl ⟨by rfl, ?hyr7_3⟩) (by assumption) ?restr7_3
  case hyr7_3 => (intro w hSw; (try dsimp only at hSw); go_simp <;> with_reducible rfl)
  try simp only [Act.put, List.getElem_toArray, List.getElem_cons_succ, List.getElem_cons_zero, List.setIfInBounds_toArray, List.set_cons_zero, List.set_cons_succ]
  refine wpAnyH_take (i := 4) (oi := _) (v := ?vr7_4) rfl (by kernel_rfl) (by kernel_rfl) (by kernel_rfl) (fun _ _ _ h => h) (Or.inl ⟨by rfl, ?hyr7_4⟩) (by assumption) ?restr7_4
  case hyr7_4 => (intro w hSw; (try dsimp only at hSw); go_simp <;> with_reducible rfl)
  try simp only [Act.put, List.getElem_toArray, List.getElem_cons_succ, List.getElem_cons_zero, List.setIfInBounds_toArray, List.set_cons_zero, List.set_cons_succ]
  refine wpAnyH_take (i := 5) (oi := _) (v := ?vr7_5) rfl (by kernel_rfl) (by kernel_rfl) (by kernel_rfl) (fun _ _ _ h => h) (Or.inl ⟨by rfl, ?hyr7_5⟩) (by assumption) ?restr7_5
  case hyr7_5 => (intro w hSw; (try dsimp only at hSw); go_simp <;> with_reducible rfl)
  try simp only [Act.put, List.getElem_toArray, List.getElem_cons_succ, List.getElem_cons_zero, List.setIfInBounds_toArray, List.set_cons_zero, List.set_cons_succ]
  refine wpAnyH_take (i := 6) (oi := _) (v := ?vr7_6) rfl (by kernel_rfl) (by kernel_rfl) (by kernel_rfl) (fun _ _ _ h => h) (Or.inl ⟨by rfl, ?hyr7_6⟩) (by assumption) ?restr7_6
  case hyr7_6 => (intro w hSw; (try dsimp only at hSw); go_simp <;> with_reducible rfl)
  try simp only [Act.put, List.getElem_toArray, List.getElem_cons_succ, List.getElem_cons_zero, List.setIfInBounds_toArray, List.set_cons_zero, List.set_cons_succ]
  refine wpAnyH_take (i := 7) (oi := _) (v := ?vr7_7) rfl (by kernel_rfl) (by kernel_rfl) (by kernel_rfl) (fun _ _ _ h => h) (Or.inl ⟨by rfl, ?hyr7_7⟩) (by assumption) ?restr7_7
  case hyr7_7 => (intro w hSw; (try dsimp only at hSw); go_simp <;> with_reducible rfl)
  try simp only [Act.put, List.getElem_toArray, List.getElem_cons_succ, List.getElem_cons_zero, List.setIfInBounds_toArray, List.set_cons_zero, List.set_cons_succ]
  refine wpAnyH_take (i := 8) (oi := _) (v := ?vr7_8) rfl (by kernel_rfl) (by kernel_rfl) (by kernel_rfl) (fun _ _ _ h => h) (Or.inl ⟨by rfl, ?hyr7_8⟩) (by assumption) ?restr7_8
  case hyr7_8 => (intro w hSw; (try dsimp only at hSw); go_simp <;> with_reducible rfl)
  try simp only [Act.put, List.getElem_toArray, List.getElem_cons_succ, List.getElem_cons_zero, List.setIfInBounds_toArray, List.set_cons_zero, List.set_cons_succ]
  refine wpAnyH_take (i := 9) (oi := _) (v := ?vr7_9) rfl (by kernel_rfl) (by kernel_rfl) (by kernel_rfl) (fun _ _ _ h => h) (Or.inl ⟨by rfl, ?hyr7_9⟩) (by assumption) ?restr7_9
  case hyr7_9 => (intro w hSw; (try dsimp only at hSw); go_simp <;> with_reducible rfl)
  try simp only [Act.put, List.getElem_toArray, List.getElem_cons_succ, List.getElem_cons_zero, List.setIfInBounds_toArray, List.set_cons_zero, List.set_cons_succ]
  refine wpAnyH_take (i := 10) (oi := _) (v := ?vr7_10) rfl (by kernel_rfl) (by kernel_rfl) (by kernel_rfl) (fun _ _ _ h => h) (Or.inl ⟨by rfl, ?hyr7_10⟩) (by assumption) ?restr7_10
  case hyr7_10 => (intro w hSw; (try dsimp only at hSw); go_simp <;> with_reducible rfl)
  try simp only [Act.put, List.getElem_toArray, List.getElem_cons_succ, List.getElem_cons_zero, List.setIfInBounds_toArray, List.set_cons_zero, List.set_cons_succ]
  refine wpAnyH_take (i := 11) (oi := _) (v := ?vr7_11) rfl (by kernel_rfl) (by kernel_rfl) (by kernel_rfl) (fun _ _ _ h => h) (Or.inl ⟨by rfl, ?hyr7_11⟩) (by assumption) ?restr7_11
  case hyr7_11 => (intro w hSw; (try dsimp only at hSw); go_simp <;> with_reducible rfl)
  try simp only [Act.put, List.getElem_toArray, List.getElem_cons_succ, List.getElem_cons_zero, List.setIfInBounds_toArray, List.set_cons_zero, List.set_cons_succ]
  refine wpAnyH_take (i := 12) (oi := _) (v := ?vr7_12) rfl (by kernel_rfl) (by kernel_rfl) (by kernel_rfl) (fun _ _ _ h => h) (Or.inl ⟨by rfl, ?hyr7_12⟩) (by assumption) ?restr7_12
  case hyr7_12 => (intro w hSw; (try dsimp only at hSw); go_simp <;> with_reducible rfl)
  try simp only [Act.put, List.getElem_toArray, List.getElem_cons_succ, List.getElem_cons_zero, List.setIfInBounds_toArray, List.set_cons_zero, List.set_cons_succ]
  refine wpAnyH_take (i := 13) (oi := _) (v := ?vr7_13) rfl (by kernel_rfl) (by kernel_rfl) (by kernel_rfl) (fun _ _ _ h => h) (Or.inl ⟨by rfl, ?hyr7_13⟩) (by assumption) ?restr7_13
  case hyr7_13 => (intro w hSw; (try dsimp only at hSw); go_simp <;> with_reducible rfl)
  try simp only [Act.put, List.getElem_toArray, List.getElem_cons_succ, List.getElem_cons_zero, List.setIfInBounds_toArray, List.set_cons_zero, List.set_cons_succ]
  refine wpAnyH_take (i := 14) (oi := _) (v := ?vr7_14) rfl (by kernel_rfl) (by kernel_rfl) (by kernel_rfl) (fun _ _ _ h => h) (Or.inl ⟨by rfl, ?hyr7_14⟩) (by assumption) ?restr7_14
  case hyr7_14 => (intro w hSw; (try dsimp only at hSw); go_simp <;> with_reducible rfl)
  try simp only [Act.put, List.getElem_toArray, List.getElem_cons_succ, List.getElem_cons_zero, List.setIfInBounds_toArray, List.set_cons_zero, List.set_cons_succ]
  refine wpAnyH_take (i := 15) (oi := _) (v := ?vr7_15) rfl (by kernel_rfl) (by kernel_rfl) (by kernel_rfl) (fun _ _ _ h => h) (Or.inl ⟨by rfl, ?hyr7_15⟩) (by assumption) ?restr7_15
  case hyr7_15 => (intro w hSw; (try dsimp only at hSw); go_simp <;> with_reducible rfl)
  try simp only [Act.put, List.getElem_toArray, List.getElem_cons_succ, List.getElem_cons_zero, List.setIfInBounds_toArray, List.set_cons_zero, List.set_cons_succ]
  refine wpAnyH_take (i := 16) (oi := _) (v := ?vr7_16) rfl (by kernel_rfl) (by kernel_rfl) (by kernel_rfl) (fun _ _ _ h => h) (Or.inl ⟨by rfl, ?hyr7_16⟩) (by assumption) ?restr7_16
  case hyr7_16 => (intro w hSw; (try dsimp only at hSw); go_simp <;> with_reducible rfl)
  try simp only [Act.put, List.getElem_toArray, List.getElem_cons_succ, List.getElem_cons_zero, List.setIfInBounds_toArray, List.set_cons_zero, List.set_cons_succ]
  refine wpAnyH_take (i := 17) (oi := _) (v := ?vr7_17) rfl (by kernel_rfl) (by kernel_rfl) (by kernel_rfl) (fun _ _ _ h => h) (Or.inl ⟨by rfl, ?hyr7_17⟩) (by assumption) ?restr7_17
  case hyr7_17 => (intro w hSw; (try dsimp only at hSw); go_simp <;> with_reducible rfl)
  try simp only [Act.put, List.getElem_toArray, List.getElem_cons_succ, List.getElem_cons_zero, List.setIfInBounds_toArray, List.set_cons_zero, List.set_cons_succ]
  refine wpAnyH_take (i := 18) (oi := _) (v := ?vr7_18) rfl (by kernel_rfl) (by kernel_rfl) (by kernel_rfl) (fun _ _ _ h => h) (Or.inl ⟨by rfl, ?hyr7_18⟩) (by assumption) ?restr7_18
  case hyr7_18 => (intro w hSw; (try dsimp only at hSw); go_simp <;> with_reducible rfl)
  try simp only [Act.put, List.getElem_toArray, List.getElem_cons_succ, List.getElem_cons_zero, List.setIfInBounds_toArray, List.set_cons_zero, List.set_cons_succ]
  refine wpAnyH_take (i := 19) (oi := _) (v := ?vr7_19) rfl (by kernel_rfl) (by kernel_rfl) (by kernel_rfl) (fun _ _ _ h => h) (Or.inl ⟨by rfl, ?hyr7_19⟩) (by assumption) ?restr7_19
  case hyr7_19 => (intro w hSw; (try dsimp only at hSw); go_simp <;> with_reducible rfl)
  try simp only [Act.put, List.getElem_toArray, List.getElem_cons_succ, List.getElem_cons_zero, List.setIfInBounds_toArray, List.set_cons_zero, List.set_cons_succ]
  refine wpAnyH_take (i := 20) (oi := _) (v := ?vr7_20) rfl (by kernel_rfl) (by kernel_rfl) (by kernel_rfl) (fun _ _ _ h => h) (Or.inl ⟨by rfl, ?hyr7_20⟩) (by assumption) ?restr7_20
  case hyr7_20 => (intro w hSw; (try dsimp only at hSw); go_simp <;> with_reducible rfl)
  try simp only [Act.put, List.getElem_toArray, List.getElem_cons_succ, List.getElem_cons_zero, List.setIfInBounds_toArray, List.set_cons_zero, List.set_cons_succ]
  refine wpAnyH_take (i := 21) (oi := _) (v := ?vr7_21) rfl (by kernel_rfl) (by kernel_rfl) (by kernel_rfl) (fun _ _ _ h => h) (Or.inl ⟨by rfl, ?hyr7_21⟩) (by assumption) ?restr7_21
  case hyr7_21 => (intro w hSw; (try dsimp only at hSw); go_simp <;> with_reducible rfl)
  try simp only [Act.put, List.getElem_toArray, List.getElem_cons_succ, List.getElem_cons_zero, List.setIfInBounds_toArray, List.set_cons_zero, List.set_cons_succ]
  refine wpAnyH_take (i := 22) (oi := _) (v := ?vr7_22) rfl (by kernel_rfl) (by kernel_rfl) (by kernel_rfl) (fun _ _ _ h => h) (Or.inl ⟨by rfl, ?hyr7_22⟩) (by assumption) ?restr7_22
  case hyr7_22 => (intro w hSw; (try dsimp only at hSw); go_simp <;> with_reducible rfl)
  try simp only [Act.put, List.getElem_toArray, List.getElem_cons_succ, List.getElem_cons_zero, List.setIfInBounds_toArray, List.set_cons_zero, List.set_cons_succ]
  refine wpAnyH_take (i := 23) (oi := _) (v := ?vr7_23) rfl (by kernel_rfl) (by kernel_rfl) (by kernel_rfl) (fun _ _ _ h => h) (Or.inl ⟨by rfl, ?hyr7_23⟩) (by assumption) ?restr7_23
  case hyr7_23 => (intro w hSw; (try dsimp only at hSw); go_simp <;> with_reducible rfl)
  try simp only [Act.put, List.getElem_toArray, List.getElem_cons_succ, List.getElem_cons_zero, List.setIfInBounds_toArray, List.set_cons_zero, List.set_cons_succ]
  refine wpAnyH_ready (rs := [24]) (by kernel_rfl) (by simp) ?_
  refine AllReadyH.cons (o := _) rfl (fun K hK => ?_) AllReadyH.nil
  go_simp
  refine hK.out _ _ ?_ (fun hHeld => ?_)
  · (exact TOS.out _ (P0.alloc P0.size _))
  clear hK K
  try simp only [Act.put, List.getElem_toArray, List.getElem_cons_succ, List.getElem_cons_zero, List.setIfInBounds_toArray, List.set_cons_zero, List.set_cons_succ]
  refine wpAnyH_take (i := 25) (oi := _) (v := ?vr7_25) rfl (by kernel_rfl) (by kernel_rfl) (by kernel_rfl) (fun _ _ _ h => h) (Or.inl ⟨by rfl, ?hyr7_25⟩) (by assumption) ?restr7_25
  case hyr7_25 => (intro w hSw; (try dsimp only at hSw); go_simp <;> with_reducible rfl)
  try simp only [Act.put, List.getElem_toArray, List.getElem_cons_succ, List.getElem_cons_zero, List.setIfInBounds_toArray, List.set_cons_zero, List.set_cons_succ]
  refine wpAnyH_done (by kernel_rfl) ?_ _
  go_wp2
  go_ret
  refine ⟨WM.heap.size, some ⟨bm, 0, none⟩, some ⟨bm, a, none⟩, some ⟨bm, i1, none⟩, some ⟨bm, i2, none⟩, a, c, c, a, by simp, ?_, RD1.out _ (P0.alloc P0.size _), fun e => (by cases e), RD2.out _ (P0.alloc P0.size _), fun e => (by cases e), RD3.out _ (P0.alloc P0.size _), fun e => (by cases e), RD4.out _ (P0.alloc P0.size _), fun e => (by cases e), (hB.trans (P0.mono hB.size)).alloc (hB.trans (P0.mono hB.size)).size _⟩
  simp only [zeros_length]
  exact heap_alloc_new _ _

set_option maxRecDepth 100000 in
set_option maxHeartbeats 2000000 in
theorem newK_noY (x0 y0 x1 y1 rt : Int) (wd ht cw ch c i2 : Nat) (HW : Hid (x1 - x0 = wd)) (HH : Hid (y1 - y0 = ht)) (HC : Hid (cwOf rt x0 x1 = cw)) (HD : Hid (chOf rt y0 y1 = ch)) (w1 : (wd : Int) ≤ 65536) (w2 : (ht : Int) ≤ 65536) (w3 : (cw : Int) ≤ 65537) (w4 : (ch : Int) ≤ 65537) (f1 : (wd : Int) * (ht : Int) = 0) (f2 : 2 * (wd : Int) * (ht : Int) = 0) (f3 : (cw : Int) * (ch : Int) = c) (f4 : 2 * (cw : Int) * (ch : Int) = 2 * c) (g2 : (c : Int) ≤ 262144) (f7 : 2 * (c : Int) = i2) (hc : 0 < c) (w : World) (n1 : 0 ≤ x0) (n2 : 0 ≤ y0) (n3 : x0 ≤ x1) (n4 : y0 ≤ y1) (n5 : x1 ≤ 1099511627776) (n6 : y1 ≤ 1099511627776) (r0 : 0 ≤ rt) (r5 : rt ≤ 5) :
    Calls Try.prog 32 #[.agg #[.int .i64 x0, .int .i64 y0, .int .i64 x1, .int .i64 y1], .int .i64 rt] w (NewBack (zeros 0) (zeros c) (zeros c) (zeros 0) rt wd cw wd x0 y0 x1 y1 w) := by
  have hmk := run_make_row' (P := Try.prog) 28 5 (.int .u8 0) 1 Try.underlying28 info5 rfl .i64 .i64 i2 (by omega) (by omega)
  have s2 : ¬ c = 0 := by omega
  have s4 : i2 - c = c := by omega
  have s7 : ¬ i2 = c := by omega
  have l3 : (c : Int) ≤ i2 := by omega
  have l7 : (0 : Int) ≤ c := by omega
  have l8 : (0 : Int) ≤ i2 := by omega
  have l9 : (i2 : Int) ≤ 9223372036854775807 := by omega
  have hB : Below w.heap.size w (w.alloc (.cells #[.int .i64 x0, .int .i64 y0, .int .i64 x1, .int .i64 y1] 58)) := (Below.refl _ _).alloc (Nat.le_refl _) _
  have R0 : (w.alloc (.cells #[.int .i64 x0, .int .i64 y0, .int .i64 x1, .int .i64 y1] 58)).cell? ⟨w.heap.size, 0, none⟩ = some (.int .i64 x0) := by first | (simp; done) | go_simp
  have R1 : (w.alloc (.cells #[.int .i64 x0, .int .i64 y0, .int .i64 x1, .int .i64 y1] 58)).cell? ⟨w.heap.size, 1, none⟩ = some (.int .i64 y0) := by first | (simp; done) | go_simp
  have R2 : (w.alloc (.cells #[.int .i64 x0, .int .i64 y0, .int .i64 x1, .int .i64 y1] 58)).cell? ⟨w.heap.size, 2, none⟩ = some (.int .i64 x1) := by first | (simp; done) | go_simp
  have R3 : (w.alloc (.cells #[.int .i64 x0, .int .i64 y0, .int .i64 x1, .int .i64 y1] 58)).cell? ⟨w.heap.size, 3, none⟩ = some (.int .i64 y1) := by first | (simp; done) | go_simp
  go_enter Try.func32, Try.ntmps32
  go_wp2_with fail
  generalize w.alloc (.cells #[.int .i64 x0, .int .i64 y0, .int .i64 x1, .int .i64 y1] 58) = W0 at *
  refine (size_any x0 y0 x1 y1 rt _ n1 n2 n3 n4 n5 n6 r0 r5).mono ?_
  rintro e w1 ⟨rfl, hb1⟩
  replace R0 := cell_kept R0 hb1
  replace R1 := cell_kept R1 hb1
  replace R2 := cell_kept R2 hb1
  replace R3 := cell_kept R3 hb1
  replace hB := hB.trans (hb1.mono hB.size)
  clear hb1
  rw [HW.out, HH.out, HC.out, HD.out]
  go_wp2_with fail
  refine (mul3_any (wd : Int) (ht : Int) _ (by omega) (by omega) (by omega) (by omega) (by omega) (by omega)).mono ?_
  rintro e w' ⟨rfl, rfl⟩
  go_wp2_with fail
  refine (mul3_any (cw : Int) (ch : Int) _ (by omega) (by omega) (by omega) (by omega) (by omega) (by omega)).mono ?_
  rintro e w' ⟨rfl, rfl⟩
  try rw [f2]
  try rw [f4]
  go_wp2_with fail
  refine (add2_any _ _ _ (by omega) (by omega) (by omega) (by omega)).mono ?_
  rintro e w' ⟨rfl, rfl⟩
  have aw : Below w1.heap.size w1 (w1.alloc (.cells (madeCells #[.int .u8 0] i2) 5)) := (Below.refl _ _).alloc (Nat.le_refl _) _
  replace R0 := cell_kept R0 aw
  replace R1 := cell_kept R1 aw
  replace R2 := cell_kept R2 aw
  replace R3 := cell_kept R3 aw
  replace hB := hB.trans (aw.mono hB.size)
  clear aw
  have RD1 : Hid (∀ W', Below (w1.alloc (.cells (madeCells #[.int .u8 0] i2) 5)).heap.size (w1.alloc (.cells (madeCells #[.int .u8 0] i2) 5)) W' → Reads W' (some ⟨w1.heap.size, 0, none⟩) (zeros 0)) := fun W' h => reads_made h (by omega)
  have RD2 : Hid (∀ W', Below (w1.alloc (.cells (madeCells #[.int .u8 0] i2) 5)).heap.size (w1.alloc (.cells (madeCells #[.int .u8 0] i2) 5)) W' → Reads W' (some ⟨w1.heap.size, 0, none⟩) (zeros c)) := fun W' h => reads_made h (by omega)
  have RD3 : Hid (∀ W', Below (w1.alloc (.cells (madeCells #[.int .u8 0] i2) 5)).heap.size (w1.alloc (.cells (madeCells #[.int .u8 0] i2) 5)) W' → Reads W' (some ⟨w1.heap.size, c, none⟩) (zeros c)) := fun W' h => reads_made h (by omega)
  have RD4 : Hid (∀ W', Below (w1.alloc (.cells (madeCells #[.int .u8 0] i2) 5)).heap.size (w1.alloc (.cells (madeCells #[.int .u8 0] i2) 5)) W' → Reads W' (some ⟨w1.heap.size, 0, none⟩) (zeros 0)) := fun W' h => reads_made h (by omega)
  go_wp2_with fail
  generalize w1.alloc (.cells (madeCells #[.int .u8 0] i2) 5) = WM at *
  generalize w1.heap.size = bm at *
  clear hmk f1 f2 f3 f4
  have P0 : Below WM.heap.size WM WM.drew := (Below.refl _ _).drew
  have toS : ∀ W' : World, Below WM.heap.size WM W' → (W'.cell? ⟨w.heap.size, 0, none⟩ = some (.int .i64 x0) ∧ W'.cell? ⟨w.heap.size, 1, none⟩ = some (.int .i64 y0) ∧ W'.cell? ⟨w.heap.size, 2, none⟩ = some (.int .i64 x1) ∧ W'.cell? ⟨w.heap.size, 3, none⟩ = some (.int .i64 y1)) := fun W' h => ⟨cell_kept R0 h, cell_kept R1 h, cell_kept R2 h, cell_kept R3 h⟩
  have TOS := Lib.hid toS
  clear toS
  refine wp_region_held_drew (S := fun w' => w'.cell? ⟨w.heap.size, 0, none⟩ = some (.int .i64 x0) ∧ w'.cell? ⟨w.heap.size, 1, none⟩ = some (.int .i64 y0) ∧ w'.cell? ⟨w.heap.size, 2, none⟩ = some (.int .i64 x1) ∧ w'.cell? ⟨w.heap.size, 3, none⟩ = some (.int .i64 y1)) (by kernel_rfl) ?_ (fun hHeld => ?_)
  · (exact TOS.out _ P0)
  refine wpAnyH_take (i := 0) (oi := _) (v := ?vr8_0) rfl (by kernel_rfl) (by kernel_rfl) (by kernel_rfl) (fun _ _ _ h => h) (Or.inl ⟨by rfl, ?hyr8_0⟩) (by assumption) ?restr8_0
  case hyr8_0 => (intro w hSw; (try dsimp only at hSw); go_simp <;> with_reducible rfl)
  try simp only [Act.put, List.getElem_toArray, List.getElem_cons_succ, List.getElem_cons_zero, List.setIfInBounds_toArray, List.set_cons_zero, List.set_cons_succ]
  refine wpAnyH_take (i := 1) (oi := _) (v := ?vr8_1) rfl (by kernel_rfl) (by kernel_rfl) (by kernel_rfl) (fun _ _ _ h => h) (Or.inl ⟨by rfl, ?hyr8_1⟩) (by assumption) ?restr8_1
  case hyr8_1 => (intro w hSw; (try dsimp only at hSw); go_simp <;> with_reducible rfl)
  try simp only [Act.put, List.getElem_toArray, List.getElem_cons_succ, List.getElem_cons_zero, List.setIfInBounds_toArray, List.set_cons_zero, List.set_cons_succ]
  refine wpAnyH_take (i := 2) (oi := _) (v := ?vr8_2) rfl (by kernel_rfl) (by kernel_rfl) (by kernel_rfl) (fun _ _ _ h => h) (Or.inl ⟨by rfl, ?hyr8_2⟩) (by assumption) ?restr8_2
  case hyr8_2 => (intro w hSw; (try dsimp only at hSw); go_simp <;> with_reducible rfl)
  try simp only [Act.put, List.getElem_toArray, List.getElem_cons_succ, List.getElem_cons_zero, List.setIfInBounds_toArray, List.set_cons_zero, List.set_cons_succ]
  refine wpAnyH_take (i := 3) (oi := _) (v := ?vr8_3) rfl (by kernel_rfl) (by kernel_rfl) (by kernel_rfl) (fun _ _ _ h => h) (Or.inl ⟨by rfl, ?hyr8_3⟩) (by assumption) ?restr8_3
  case hyr8_3 => (intro w hSw; (try dsimp only at hSw); go_simp <;> with_reducible rfl)
  try simp only [Act.put, List.getElem_toArray, List.getElem_cons_succ, List.getElem_cons_zero, List.setIfInBounds_toArray, List.set_cons_zero, List.set_cons_succ]
  refine wpAnyH_take (i := 4) (oi := _) (v := ?vr8_4) rfl (by kernel_rfl) (by kernel_rfl) (by kernel_rfl) (fun _ _ _ h => h) (Or.inl ⟨by rfl, ?hyr8_4⟩) (by assumption) ?restr8_4
  case hyr8_4 => (intro w hSw; (try dsimp only at hSw); go_simp <;> with_reducible rfl)
  try simp only [Act.put, List.getElem_toArray, List.getElem_cons_succ, List.getElem_cons_zero, List.setIfInBounds_toArray, List.set_cons_zero, List.set_cons_succ]
  refine wpAnyH_take (i := 5) (oi := _) (v := ?vr8_5) rfl (by kernel_rfl) (by kernel_rfl) (by kernel_rfl) (fun _ _ _ h => h) (Or.inl ⟨by rfl, ?hyr8_5⟩) (by assumption) ?restr8_5
  case hyr8_5 => (intro w hSw; (try dsimp only at hSw); go_simp <;> with_reducible rfl)
  try simp only [Act.put, List.getElem_toArray, List.getElem_cons_succ, List.getElem_cons_zero, List.setIfInBounds_toArray, List.set_cons_zero, List.set_cons_succ]
  refine wpAnyH_take (i := 6) (oi := _) (v := ?vr8_6) rfl (by kernel_rfl) (by kernel_rfl) (by kernel_rfl) (fun _ _ _ h => h) (Or.inl ⟨by rfl, ?hyr8_6⟩) (by assumption) ?restr8_6
  case hyr8_6 => (intro w hSw; (try dsimp only at hSw); go_simp <;> with_reducible rfl)
  try simp only [Act.put, List.getElem_toArray, List.getElem_cons_succ, List.getElem_cons_zero, List.setIfInBounds_toArray, List.set_cons_zero, List.set_cons_succ]
  refine wpAnyH_take (i := 7) (oi := _) (v := ?vr8_7) rfl (by kernel_rfl) (by kernel_rfl) (by kernel_rfl) (fun _ _ _ h => h) (Or.inl ⟨by rfl, ?hyr8_7⟩) (by assumption) ?restr8_7
  case hyr8_7 => (intro w hSw; (try dsimp only at hSw); go_simp <;> with_reducible rfl)
  try simp only [Act.put, List.getElem_toArray, List.getElem_cons_succ, List.getElem_cons_zero, List.setIfInBounds_toArray, List.set_cons_zero, List.set_cons_succ]
  refine wpAnyH_take (i := 8) (oi := _) (v := ?vr8_8) rfl (by kernel_rfl) (by kernel_rfl) (by kernel_rfl) (fun _ _ _ h => h) (Or.inl ⟨by rfl, ?hyr8_8⟩) (by assumption) ?restr8_8
  case hyr8_8 => (intro w hSw; (try dsimp only at hSw); go_simp <;> with_reducible rfl)
  try simp only [Act.put, List.getElem_toArray, List.getElem_cons_succ, List.getElem_cons_zero, List.setIfInBounds_toArray, List.set_cons_zero, List.set_cons_succ]
  refine wpAnyH_take (i := 9) (oi := _) (v := ?vr8_9) rfl (by kernel_rfl) (by kernel_rfl) (by kernel_rfl) (fun _ _ _ h => h) (Or.inl ⟨by rfl, ?hyr8_9⟩) (by assumption) ?restr8_9
  case hyr8_9 => (intro w hSw; (try dsimp only at hSw); go_simp <;> with_reducible rfl)
  try simp only [Act.put, List.getElem_toArray, List.getElem_cons_succ, List.getElem_cons_zero, List.setIfInBounds_toArray, List.set_cons_zero, List.set_cons_succ]
  refine wpAnyH_take (i := 10) (oi := _) (v := ?vr8_10) rfl (by kernel_rfl) (by kernel_rfl) (by kernel_rfl) (fun _ _ _ h => h) (Or.inl ⟨by rfl, ?hyr8_10⟩) (by assumption) ?restr8_10
  case hyr8_10 => (intro w hSw; (try dsimp only at hSw); go_simp <;> with_reducible rfl)
  try simp only [Act.put, List.getElem_toArray, List.getElem_cons_succ, List.getElem_cons_zero, List.setIfInBounds_toArray, List.set_cons_zero, List.set_cons_succ]
  refine wpAnyH_take (i := 11) (oi := _) (v := ?vr8_11) rfl (by kernel_rfl) (by kernel_rfl) (by kernel_rfl) (fun _ _ _ h => h) (Or.inl ⟨by rfl, ?hyr8_11⟩) (by assumption) ?restr8_11
  case hyr8_11 => (intro w hSw; (try dsimp only at hSw); go_simp <;> with_reducible rfl)
  try simp only [Act.put, List.getElem_toArray, List.getElem_cons_succ, List.getElem_cons_zero, List.setIfInBounds_toArray, List.set_cons_zero, List.set_cons_succ]
  refine wpAnyH_take (i := 12) (oi := _) (v := ?vr8_12) rfl (by kernel_rfl) (by kernel_rfl) (by kernel_rfl) (fun _ _ _ h => h) (Or.inl ⟨by rfl, ?hyr8_12⟩) (by assumption) ?restr8_12
  case hyr8_12 => (intro w hSw; (try dsimp only at hSw); go_simp <;> with_reducible rfl)
  try simp only [Act.put, List.getElem_toArray, List.getElem_cons_succ, List.getElem_cons_zero, List.setIfInBounds_toArray, List.set_cons_zero, List.set_cons_succ]
  refine wpAnyH_take (i := 13) (oi := _) (v := ?vr8_13) rfl (by kernel_rfl) (by kernel_rfl) (by kernel_rfl) (fun _ _ _ h => h) (Or.inl ⟨by rfl, ?hyr8_13⟩) (by assumption) ?restr8_13
  case hyr8_13 => (intro w hSw; (try dsimp only at hSw); go_simp <;> with_reducible rfl)
  try simp only [Act.put, List.getElem_toArray, List.getElem_cons_succ, List.getElem_cons_zero, List.setIfInBounds_toArray, List.set_cons_zero, List.set_cons_succ]
  refine wpAnyH_take (i := 14) (oi := _) (v := ?vr8_14) rfl (by kernel_rfl) (by kernel_rfl) (by kernel_rfl) (fun _ _ _ h => h) (Or.inl ⟨by rfl, ?hyr8_14⟩) (by assumption) ?restr8_14
  case hyr8_14 => (intro w hSw; (try dsimp only at hSw); go_simp <;> with_reducible rfl)
  try simp only [Act.put, List.getElem_toArray, List.getElem_cons_succ, List.getElem_cons_zero, List.setIfInBounds_toArray, List.set_cons_zero, List.set_cons_succ]
  refine wpAnyH_take (i := 15) (oi := _) (v := ?vr8_15) rfl (by kernel_rfl) (by kernel_rfl) (by kernel_rfl) (fun _ _ _ h => h) (Or.inl ⟨by rfl, ?hyr8_15⟩) (by assumption) ?restr8_15
  case hyr8_15 => (intro w hSw; (try dsimp only at hSw); go_simp <;> with_reducible rfl)
  try simp only [Act.put, List.getElem_toArray, List.getElem_cons_succ, List.getElem_cons_zero, List.setIfInBounds_toArray, List.set_cons_zero, List.set_cons_succ]
  refine wpAnyH_take (i := 16) (oi := _) (v := ?vr8_16) rfl (by kernel_rfl) (by kernel_rfl) (by kernel_rfl) (fun _ _ _ h => h) (Or.inl ⟨by rfl, ?hyr8_16⟩) (by assumption) ?restr8_16
  case hyr8_16 => (intro w hSw; (try dsimp only at hSw); go_simp <;> with_reducible rfl)
  try simp only [Act.put, List.getElem_toArray, List.getElem_cons_succ, List.getElem_cons_zero, List.setIfInBounds_toArray, List.set_cons_zero, List.set_cons_succ]
  refine wpAnyH_take (i := 17) (oi := _) (v := ?vr8_17) rfl (by kernel_rfl) (by kernel_rfl) (by kernel_rfl) (fun _ _ _ h => h) (Or.inl ⟨by rfl, ?hyr8_17⟩) (by assumption) ?restr8_17
  case hyr8_17 => (intro w hSw; (try dsimp only at hSw); go_simp <;> with_reducible rfl)
  try simp only [Act.put, List.getElem_toArray, List.getElem_cons_succ, List.getElem_cons_zero, List.setIfInBounds_toArray, List.set_cons_zero, List.set_cons_succ]
  refine wpAnyH_take (i := 18) (oi := _) (v := ?vr8_18) rfl (by kernel_rfl) (by kernel_rfl) (by kernel_rfl) (fun _ _ _ h => h) (Or.inl ⟨by rfl, ?hyr8_18⟩) (by assumption) ?restr8_18
  case hyr8_18 => (intro w hSw; (try dsimp only at hSw); go_simp <;> with_reducible rfl)
  try simp only [Act.put, List.getElem_toArray, List.getElem_cons_succ, List.getElem_cons_zero, List.setIfInBounds_toArray, List.set_cons_zero, List.set_cons_succ]
  refine wpAnyH_take (i := 19) (oi := _) (v := ?vr8_19) rfl (by kernel_rfl) (by kernel_rfl) (by kernel_rfl) (fun _ _ _ h => h) (Or.inl ⟨by rfl, ?hyr8_19⟩) (by assumption) ?restr8_19
  case hyr8_19 => (intro w hSw; (try dsimp only at hSw); go_simp <;> with_reducible rfl)
  try simp only [Act.put, List.getElem_toArray, List.getElem_cons_succ, List.getElem_cons_zero, List.setIfInBounds_toArray, List.set_cons_zero, List.set_cons_succ]
  refine wpAnyH_take (i := 20) (oi := _) (v := ?vr8_20) rfl (by kernel_rfl) (by kernel_rfl) (by kernel_rfl) (fun _ _ _ h => h) (Or.inl ⟨by rfl, ?hyr8_20⟩) (by assumption) ?restr8_20
  case hyr8_20 => (intro w hSw; (try dsimp only at hSw); go_simp <;> with_reducible rfl)
  try simp only [Act.put, List.getElem_toArray, List.getElem_cons_succ, List.getElem_cons_zero, List.setIfInBounds_toArray, List.set_cons_zero, List.set_cons_succ]
  refine wpAnyH_take (i := 21) (oi := _) (v := ?vr8_21) rfl (by kernel_rfl) (by kernel_rfl) (by kernel_rfl) (fun _ _ _ h => h) (Or.inl ⟨by rfl, ?hyr8_21⟩) (by assumption) ?restr8_21
  case hyr8_21 => (intro w hSw; (try dsimp only at hSw); go_simp <;> with_reducible rfl)
  try simp only [Act.put, List.getElem_toArray, List.getElem_cons_succ, List.getElem_cons_zero, List.setIfInBounds_toArray, List.set_cons_zero, List.set_cons_succ]
  refine wpAnyH_take (i := 22) (oi := _) (v := ?vr8_22) rfl (by kernel_rfl) (by kernel_rfl) (by kernel_rfl) (fun _ _ _ h => h) (Or.inl ⟨by rfl, ?hyr8_22⟩) (by assumption) ?restr8_22
  case hyr8_22 => (intro w hSw; (try dsimp only at hSw); go_simp <;> with_reducible rfl)
  try simp only [Act.put, List.getElem_toArray, List.getElem_cons_succ, List.getElem_cons_zero, List.setIfInBounds_toArray, List.set_cons_zero, List.set_cons_succ]
  refine wpAnyH_take (i := 23) (oi := _) (v := ?vr8_23) rfl (by kernel_rfl) (by kernel_rfl) (by kernel_rfl) (fun _ _ _ h => h) (Or.inl ⟨by rfl, ?hyr8_23⟩) (by assumption) ?restr8_23
  case hyr8_23 => (intro w hSw; (try dsimp only at hSw); go_simp <;> with_reducible rfl)
  try simp only [Act.put, List.getElem_toArray, List.getElem_cons_succ, List.getElem_cons_zero, List.setIfInBounds_toArray, List.set_cons_zero, List.set_cons_succ]
  refine wpAnyH_ready (rs := [24]) (by kernel_rfl) (by simp) ?_
  refine AllReadyH.cons (o := _) rfl (fun K hK => ?_) AllReadyH.nil
  go_simp
  refine hK.out _ _ ?_ (fun hHeld => ?_)
  · (exact TOS.out _ (P0.alloc P0.size _))
  clear hK K
  try simp only [Act.put, List.getElem_toArray, List.getElem_cons_succ, List.getElem_cons_zero, List.setIfInBounds_toArray, List.set_cons_zero, List.set_cons_succ]
  refine wpAnyH_take (i := 25) (oi := _) (v := ?vr8_25) rfl (by kernel_rfl) (by kernel_rfl) (by kernel_rfl) (fun _ _ _ h => h) (Or.inl ⟨by rfl, ?hyr8_25⟩) (by assumption) ?restr8_25
  case hyr8_25 => (intro w hSw; (try dsimp only at hSw); go_simp <;> with_reducible rfl)
  try simp only [Act.put, List.getElem_toArray, List.getElem_cons_succ, List.getElem_cons_zero, List.setIfInBounds_toArray, List.set_cons_zero, List.set_cons_succ]
  refine wpAnyH_done (by kernel_rfl) ?_ _
  go_wp2
  go_ret
  refine ⟨WM.heap.size, some ⟨bm, 0, none⟩, some ⟨bm, 0, none⟩, some ⟨bm, c, none⟩, some ⟨bm, 0, none⟩, 0, c, c, 0, by simp, ?_, RD1.out _ (P0.alloc P0.size _), fun e => (by cases e), RD2.out _ (P0.alloc P0.size _), fun e => (by cases e), RD3.out _ (P0.alloc P0.size _), fun e => (by cases e), RD4.out _ (P0.alloc P0.size _), fun e => (by cases e), (hB.trans (P0.mono hB.size)).alloc (hB.trans (P0.mono hB.size)).size _⟩
  simp only [zeros_length]
  exact heap_alloc_new _ _

set_option maxRecDepth 100000 in
set_option maxHeartbeats 2000000 in
theorem newK_none (x0 y0 x1 y1 rt : Int) (wd ht cw ch  : Nat) (HW : Hid (x1 - x0 = wd)) (HH : Hid (y1 - y0 = ht)) (HC : Hid (cwOf rt x0 x1 = cw)) (HD : Hid (chOf rt y0 y1 = ch)) (w1 : (wd : Int) ≤ 65536) (w2 : (ht : Int) ≤ 65536) (w3 : (cw : Int) ≤ 65537) (w4 : (ch : Int) ≤ 65537) (f1 : (wd : Int) * (ht : Int) = 0) (f2 : 2 * (wd : Int) * (ht : Int) = 0) (f3 : (cw : Int) * (ch : Int) = 0) (f4 : 2 * (cw : Int) * (ch : Int) = 0) (w : World) (n1 : 0 ≤ x0) (n2 : 0 ≤ y0) (n3 : x0 ≤ x1) (n4 : y0 ≤ y1) (n5 : x1 ≤ 1099511627776) (n6 : y1 ≤ 1099511627776) (r0 : 0 ≤ rt) (r5 : rt ≤ 5) :
    Calls Try.prog 32 #[.agg #[.int .i64 x0, .int .i64 y0, .int .i64 x1, .int .i64 y1], .int .i64 rt] w (NewBack (zeros 0) (zeros 0) (zeros 0) (zeros 0) rt wd cw wd x0 y0 x1 y1 w) := by
  have hmk := run_make_row' (P := Try.prog) 28 5 (.int .u8 0) 1 Try.underlying28 info5 rfl .i64 .i64 (0 : Nat) (by omega) (by omega)
  simp only [Int.ofNat_zero, Int.natCast_zero, Int.cast_ofNat_Int] at hmk
  have hB : Below w.heap.size w (w.alloc (.cells #[.int .i64 x0, .int .i64 y0, .int .i64 x1, .int .i64 y1] 58)) := (Below.refl _ _).alloc (Nat.le_refl _) _
  have R0 : (w.alloc (.cells #[.int .i64 x0, .int .i64 y0, .int .i64 x1, .int .i64 y1] 58)).cell? ⟨w.heap.size, 0, none⟩ = some (.int .i64 x0) := by first | (simp; done) | go_simp
  have R1 : (w.alloc (.cells #[.int .i64 x0, .int .i64 y0, .int .i64 x1, .int .i64 y1] 58)).cell? ⟨w.heap.size, 1, none⟩ = some (.int .i64 y0) := by first | (simp; done) | go_simp
  have R2 : (w.alloc (.cells #[.int .i64 x0, .int .i64 y0, .int .i64 x1, .int .i64 y1] 58)).cell? ⟨w.heap.size, 2, none⟩ = some (.int .i64 x1) := by first | (simp; done) | go_simp
  have R3 : (w.alloc (.cells #[.int .i64 x0, .int .i64 y0, .int .i64 x1, .int .i64 y1] 58)).cell? ⟨w.heap.size, 3, none⟩ = some (.int .i64 y1) := by first | (simp; done) | go_simp
  go_enter Try.func32, Try.ntmps32
  go_wp2_with fail
  generalize w.alloc (.cells #[.int .i64 x0, .int .i64 y0, .int .i64 x1, .int .i64 y1] 58) = W0 at *
  refine (size_any x0 y0 x1 y1 rt _ n1 n2 n3 n4 n5 n6 r0 r5).mono ?_
  rintro e w1 ⟨rfl, hb1⟩
  replace R0 := cell_kept R0 hb1
  replace R1 := cell_kept R1 hb1
  replace R2 := cell_kept R2 hb1
  replace R3 := cell_kept R3 hb1
  replace hB := hB.trans (hb1.mono hB.size)
  clear hb1
  rw [HW.out, HH.out, HC.out, HD.out]
  go_wp2_with fail
  refine (mul3_any (wd : Int) (ht : Int) _ (by omega) (by omega) (by omega) (by omega) (by omega) (by omega)).mono ?_
  rintro e w' ⟨rfl, rfl⟩
  go_wp2_with fail
  refine (mul3_any (cw : Int) (ch : Int) _ (by omega) (by omega) (by omega) (by omega) (by omega) (by omega)).mono ?_
  rintro e w' ⟨rfl, rfl⟩
  try rw [f2]
  try rw [f4]
  go_wp2_with fail
  refine (add2_any _ _ _ (by omega) (by omega) (by omega) (by omega)).mono ?_
  rintro e w' ⟨rfl, rfl⟩
  have aw : Below w1.heap.size w1 (w1.alloc (.cells (madeCells #[.int .u8 0] 0) 5)) := (Below.refl _ _).alloc (Nat.le_refl _) _
  replace R0 := cell_kept R0 aw
  replace R1 := cell_kept R1 aw
  replace R2 := cell_kept R2 aw
  replace R3 := cell_kept R3 aw
  replace hB := hB.trans (aw.mono hB.size)
  clear aw
  have RD1 : Hid (∀ W', Below (w1.alloc (.cells (madeCells #[.int .u8 0] 0) 5)).heap.size (w1.alloc (.cells (madeCells #[.int .u8 0] 0) 5)) W' → Reads W' (some ⟨w1.heap.size, 0, none⟩) (zeros 0)) := fun W' h => reads_made h (by omega)
  have RD2 : Hid (∀ W', Below (w1.alloc (.cells (madeCells #[.int .u8 0] 0) 5)).heap.size (w1.alloc (.cells (madeCells #[.int .u8 0] 0) 5)) W' → Reads W' (some ⟨w1.heap.size, 0, none⟩) (zeros 0)) := fun W' h => reads_made h (by omega)
  have RD3 : Hid (∀ W', Below (w1.alloc (.cells (madeCells #[.int .u8 0] 0) 5)).heap.size (w1.alloc (.cells (madeCells #[.int .u8 0] 0) 5)) W' → Reads W' (some ⟨w1.heap.size, 0, none⟩) (zeros 0)) := fun W' h => reads_made h (by omega)
  have RD4 : Hid (∀ W', Below (w1.alloc (.cells (madeCells #[.int .u8 0] 0) 5)).heap.size (w1.alloc (.cells (madeCells #[.int .u8 0] 0) 5)) W' → Reads W' (some ⟨w1.heap.size, 0, none⟩) (zeros 0)) := fun W' h => reads_made h (by omega)
  go_wp2_with fail
  generalize w1.alloc (.cells (madeCells #[.int .u8 0] 0) 5) = WM at *
  generalize w1.heap.size = bm at *
  clear hmk f1 f2 f3 f4
  have P0 : Below WM.heap.size WM WM.drew := (Below.refl _ _).drew
  have toS : ∀ W' : World, Below WM.heap.size WM W' → (W'.cell? ⟨w.heap.size, 0, none⟩ = some (.int .i64 x0) ∧ W'.cell? ⟨w.heap.size, 1, none⟩ = some (.int .i64 y0) ∧ W'.cell? ⟨w.heap.size, 2, none⟩ = some (.int .i64 x1) ∧ W'.cell? ⟨w.heap.size, 3, none⟩ = some (.int .i64 y1)) := fun W' h => ⟨cell_kept R0 h, cell_kept R1 h, cell_kept R2 h, cell_kept R3 h⟩
  have TOS := Lib.hid toS
  clear toS
  refine wp_region_held_drew (S := fun w' => w'.cell? ⟨w.heap.size, 0, none⟩ = some (.int .i64 x0) ∧ w'.cell? ⟨w.heap.size, 1, none⟩ = some (.int .i64 y0) ∧ w'.cell? ⟨w.heap.size, 2, none⟩ = some (.int .i64 x1) ∧ w'.cell? ⟨w.heap.size, 3, none⟩ = some (.int .i64 y1)) (by kernel_rfl) ?_ (fun hHeld => ?_)
  · (exact TOS.out _ P0)
  refine wpAnyH_take (i := 0) (oi := _) (v := ?vr9_0) rfl (by kernel_rfl) (by kernel_rfl) (by kernel_rfl) (fun _ _ _ h => h) (Or.inl ⟨by rfl, ?hyr9_0⟩) (by assumption) ?restr9_0
  case hyr9_0 => (intro w hSw; (try dsimp only at hSw); go_simp <;> with_reducible rfl)
  try simp only [Act.put, List.getElem_toArray, List.getElem_cons_succ, List.getElem_cons_zero, List.setIfInBounds_toArray, List.set_cons_zero, List.set_cons_succ]
  refine wpAnyH_take (i := 1) (oi := _) (v := ?vr9_1) rfl (by kernel_rfl) (by kernel_rfl) (by kernel_rfl) (fun _ _ _ h => h) (Or.inl ⟨by rfl, ?hyr9_1⟩) (by assumption) ?restr9_1
  case hyr9_1 => (intro w hSw; (try dsimp only at hSw); go_simp <;> with_reducible rfl)
  try simp only [Act.put, List.getElem_toArray, List.getElem_cons_succ, List.getElem_cons_zero, List.setIfInBounds_toArray, List.set_cons_zero, List.set_cons_succ]
  refine wpAnyH_take (i := 2) (oi := _) (v := ?vr9_2) rfl (by kernel_rfl) (by kernel_rfl) (by kernel_rfl) (fun _ _ _ h => h) (Or.inl ⟨by rfl, ?hyr9_2⟩) (by assumption) ?restr9_2
  case hyr9_2 => (intro w hSw; (try dsimp only at hSw); go_simp <;> with_reducible rfl)
  try simp only [Act.put, List.getElem_toArray, List.getElem_cons_succ, List.getElem_cons_zero, List.setIfInBounds_toArray, List.set_cons_zero, List.set_cons_succ]
  refine wpAnyH_take (i := 3) (oi := _) (v := ?vr9_3) rfl (by kernel_rfl) (by kernel_rfl) (by kernel_rfl) (fun _ _ _ h => h) (Or.inl ⟨by rfl, ?hyr9_3⟩) (by assumption) ?restr9_3
  case hyr9_3 => (intro w hSw; (try dsimp only at hSw); go_simp <;> with_reducible rfl)
  try simp only [Act.put, List.getElem_toArray, List.getElem_cons_succ, List.getElem_cons_zero, List.setIfInBounds_toArray, List.set_cons_zero, List.set_cons_succ]
  refine wpAnyH_take (i := 4) (oi := _) (v := ?vr9_4) rfl (by kernel_rfl) (by kernel_rfl) (by kernel_rfl) (fun _ _ _ h => h) (Or.inl ⟨by rfl, ?hyr9_4⟩) (by assumption) ?restr9_4
  case hyr9_4 => (intro w hSw; (try dsimp only at hSw); go_simp <;> with_reducible rfl)
  try simp only [Act.put, List.getElem_toArray, List.getElem_cons_succ, List.getElem_cons_zero, List.setIfInBounds_toArray, List.set_cons_zero, List.set_cons_succ]
  refine wpAnyH_take (i := 5) (oi := _) (v := ?vr9_5) rfl (by kernel_rfl) (by kernel_rfl) (by kernel_rfl) (fun _ _ _ h => h) (Or.inl ⟨by rfl, ?hyr9_5⟩) (by assumption) ?restr9_5
  case hyr9_5 => (intro w hSw; (try dsimp only at hSw); go_simp <;> with_reducible rfl)
  try simp only [Act.put, List.getElem_toArray, List.getElem_cons_succ, List.getElem_cons_zero, List.setIfInBounds_toArray, List.set_cons_zero, List.set_cons_succ]
  refine wpAnyH_take (i := 6) (oi := _) (v := ?vr9_6) rfl (by kernel_rfl) (by kernel_rfl) (by kernel_rfl) (fun _ _ _ h => h) (Or.inl ⟨by rfl, ?hyr9_6⟩) (by assumption) ?restr9_6
  case hyr9_6 => (intro w hSw; (try dsimp only at hSw); go_simp <;> with_reducible rfl)
  try simp only [Act.put, List.getElem_toArray, List.getElem_cons_succ, List.getElem_cons_zero, List.setIfInBounds_toArray, List.set_cons_zero, List.set_cons_succ]
  refine wpAnyH_take (i := 7) (oi := _) (v := ?vr9_7) rfl (by kernel_rfl) (by kernel_rfl) (by kernel_rfl) (fun _ _ _ h => h) (Or.inl ⟨by rfl, ?hyr9_7⟩) (by assumption) ?restr9_7
  case hyr9_7 => (intro w hSw; (try dsimp only at hSw); go_simp <;> with_reducible rfl)
  try simp only [Act.put, List.getElem_toArray, List.getElem_cons_succ, List.getElem_cons_zero, List.setIfInBounds_toArray, List.set_cons_zero, List.set_cons_succ]
  refine wpAnyH_take (i := 8) (oi := _) (v := ?vr9_8) rfl (by kernel_rfl) (by kernel_rfl) (by kernel_rfl) (fun _ _ _ h => h) (Or.inl ⟨by rfl, ?hyr9_8⟩) (by assumption) ?restr9_8
  case hyr9_8 => (intro w hSw; (try dsimp only at hSw); go_simp <;> with_reducible rfl)
  try simp only [Act.put, List.getElem_toArray, List.getElem_cons_succ, List.getElem_cons_zero, List.setIfInBounds_toArray, List.set_cons_zero, List.set_cons_succ]
  refine wpAnyH_take (i := 9) (oi := _) (v := ?vr9_9) rfl (by kernel_rfl) (by kernel_rfl) (by kernel_rfl) (fun _ _ _ h => h) (Or.inl ⟨by rfl, ?hyr9_9⟩) (by assumption) ?restr9_9
  case hyr9_9 => (intro w hSw; (try dsimp only at hSw); go_simp <;> with_reducible rfl)
  try simp only [Act.put, List.getElem_toArray, List.getElem_cons_succ, List.getElem_cons_zero, List.setIfInBounds_toArray, List.set_cons_zero, List.set_cons_succ]
  refine wpAnyH_take (i := 10) (oi := _) (v := ?vr9_10) rfl (by kernel_rfl) (by kernel_rfl) (by kernel_rfl) (fun _ _ _ h => h) (Or.inl ⟨by rfl, ?hyr9_10⟩) (by assumption) ?restr9_10
  case hyr9_10 => (intro w hSw; (try dsimp only at hSw); go_simp <;> with_reducible rfl)
  try simp only [Act.put, List.getElem_toArray, List.getElem_cons_succ, List.getElem_cons_zero, List.setIfInBounds_toArray, List.set_cons_zero, List.set_cons_succ]
  refine wpAnyH_take (i := 11) (oi := _) (v := ?vr9_11) rfl (by kernel_rfl) (by kernel_rfl) (by kernel_rfl) (fun _ _ _ h => h) (Or.inl ⟨by rfl, ?hyr9_11⟩) (by assumption) ?restr9_11
  case hyr9_11 => (intro w hSw; (try dsimp only at hSw); go_simp <;> with_reducible rfl)
  try simp only [Act.put, List.getElem_toArray, List.getElem_cons_succ, List.getElem_cons_zero, List.setIfInBounds_toArray, List.set_cons_zero, List.set_cons_succ]
  refine wpAnyH_take (i := 12) (oi := _) (v := ?vr9_12) rfl (by kernel_rfl) (by kernel_rfl) (by kernel_rfl) (fun _ _ _ h => h) (Or.inl ⟨by rfl, ?hyr9_12⟩) (by assumption) ?restr9_12
  case hyr9_12 => (intro w hSw; (try dsimp only at hSw); go_simp <;> with_reducible rfl)
  try simp only [Act.put, List.getElem_toArray, List.getElem_cons_succ, List.getElem_cons_zero, List.setIfInBounds_toArray, List.set_cons_zero, List.set_cons_succ]
  refine wpAnyH_take (i := 13) (oi := _) (v := ?vr9_13) rfl (by kernel_rfl) (by kernel_rfl) (by kernel_rfl) (fun _ _ _ h => h) (Or.inl ⟨by rfl, ?hyr9_13⟩) (by assumption) ?restr9_13
  case hyr9_13 => (intro w hSw; (try dsimp only at hSw); go_simp <;> with_reducible rfl)
  try simp only [Act.put, List.getElem_toArray, List.getElem_cons_succ, List.getElem_cons_zero, List.setIfInBounds_toArray, List.set_cons_zero, List.set_cons_succ]
  refine wpAnyH_take (i := 14) (oi := _) (v := ?vr9_14) rfl (by kernel_rfl) (by kernel_rfl) (by kernel_rfl) (fun _ _ _ h => h) (Or.inl ⟨by rfl, ?hyr9_14⟩) (by assumption) ?restr9_14
  case hyr9_14 => (intro w hSw; (try dsimp only at hSw); go_simp <;> with_reducible rfl)
  try simp only [Act.put, List.getElem_toArray, List.getElem_cons_succ, List.getElem_cons_zero, List.setIfInBounds_toArray, List.set_cons_zero, List.set_cons_succ]
  refine wpAnyH_take (i := 15) (oi := _) (v := ?vr9_15) rfl (by kernel_rfl) (by kernel_rfl) (by kernel_rfl) (fun _ _ _ h => h) (Or.inl ⟨by rfl, ?hyr9_15⟩) (by assumption) ?restr9_15
  case hyr9_15 => (intro w hSw; (try dsimp only at hSw); go_simp <;> with_reducible rfl)
  try simp only [Act.put, List.getElem_toArray, List.getElem_cons_succ, List.getElem_cons_zero, List.setIfInBounds_toArray, List.set_cons_zero, List.set_cons_succ]
  refine wpAnyH_take (i := 16) (oi := _) (v := ?vr9_16) rfl (by kernel_rfl) (by kernel_rfl) (by kernel_rfl) (fun _ _ _ h => h) (Or.inl ⟨by rfl, ?hyr9_16⟩) (by assumption) ?restr9_16
  case hyr9_16 => (intro w hSw; (try dsimp only at hSw); go_simp <;> with_reducible rfl)
  try simp only [Act.put, List.getElem_toArray, List.getElem_cons_succ, List.getElem_cons_zero, List.setIfInBounds_toArray, List.set_cons_zero, List.set_cons_succ]
  refine wpAnyH_take (i := 17) (oi := _) (v := ?vr9_17) rfl (by kernel_rfl) (by kernel_rfl) (by kernel_rfl) (fun _ _ _ h => h) (Or.inl ⟨by rfl, ?hyr9_17⟩) (by assumption) ?restr9_17
  case hyr9_17 => (intro w hSw; (try dsimp only at hSw); go_simp <;> with_reducible rfl)
  try simp only [Act.put, List.getElem_toArray, List.getElem_cons_succ, List.getElem_cons_zero, List.setIfInBounds_toArray, List.set_cons_zero, List.set_cons_succ]
  refine wpAnyH_take (i := 18) (oi := _) (v := ?vr9_18) rfl (by kernel_rfl) (by kernel_rfl) (by kernel_rfl) (fun _ _ _ h => h) (Or.inl ⟨by rfl, ?hyr9_18⟩) (by assumption) ?restr9_18
  case hyr9_18 => (intro w hSw; (try dsimp only at hSw); go_simp <;> with_reducible rfl)
  try simp only [Act.put, List.getElem_toArray, List.getElem_cons_succ, List.getElem_cons_zero, List.setIfInBounds_toArray, List.set_cons_zero, List.set_cons_succ]
  refine wpAnyH_take (i := 19) (oi := _) (v := ?vr9_19) rfl (by kernel_rfl) (by kernel_rfl) (by kernel_rfl) (fun _ _ _ h => h) (Or.inl ⟨by rfl, ?hyr9_19⟩) (by assumption) ?restr9_19
  case hyr9_19 => (intro w hSw; (try dsimp only at hSw); go_simp <;> with_reducible rfl)
  try simp only [Act.put, List.getElem_toArray, List.getElem_cons_succ, List.getElem_cons_zero, List.setIfInBounds_toArray, List.set_cons_zero, List.set_cons_succ]
  refine wpAnyH_take (i := 20) (oi := _) (v := ?vr9_20) rfl (by kernel_rfl) (by kernel_rfl) (by kernel_rfl) (fun _ _ _ h => h) (Or.inl ⟨by rfl, ?hyr9_20⟩) (by assumption) ?restr9_20
  case hyr9_20 => (intro w hSw; (try dsimp only at hSw); go_simp <;> with_reducible rfl)
  try simp only [Act.put, List.getElem_toArray, List.getElem_cons_succ, List.getElem_cons_zero, List.setIfInBounds_toArray, List.set_cons_zero, List.set_cons_succ]
  refine wpAnyH_take (i := 21) (oi := _) (v := ?vr9_21) rfl (by kernel_rfl) (by kernel_rfl) (by kernel_rfl) (fun _ _ _ h => h) (Or.inl ⟨by rfl, ?hyr9_21⟩) (by assumption) ?restr9_21
  case hyr9_21 => (intro w hSw; (try dsimp only at hSw); go_simp <;> with_reducible rfl)
  try simp only [Act.put, List.getElem_toArray, List.getElem_cons_succ, List.getElem_cons_zero, List.setIfInBounds_toArray, List.set_cons_zero, List.set_cons_succ]
  refine wpAnyH_take (i := 22) (oi := _) (v := ?vr9_22) rfl (by kernel_rfl) (by kernel_rfl) (by kernel_rfl) (fun _ _ _ h => h) (Or.inl ⟨by rfl, ?hyr9_22⟩) (by assumption) ?restr9_22
  case hyr9_22 => (intro w hSw; (try dsimp only at hSw); go_simp <;> with_reducible rfl)
  try simp only [Act.put, List.getElem_toArray, List.getElem_cons_succ, List.getElem_cons_zero, List.setIfInBounds_toArray, List.set_cons_zero, List.set_cons_succ]
  refine wpAnyH_take (i := 23) (oi := _) (v := ?vr9_23) rfl (by kernel_rfl) (by kernel_rfl) (by kernel_rfl) (fun _ _ _ h => h) (Or.inl ⟨by rfl, ?hyr9_23⟩) (by assumption) ?restr9_23
  case hyr9_23 => (intro w hSw; (try dsimp only at hSw); go_simp <;> with_reducible rfl)
  try simp only [Act.put, List.getElem_toArray, List.getElem_cons_succ, List.getElem_cons_zero, List.setIfInBounds_toArray, List.set_cons_zero, List.set_cons_succ]
  refine wpAnyH_ready (rs := [24]) (by kernel_rfl) (by simp) ?_
  refine AllReadyH.cons (o := _) rfl (fun K hK => ?_) AllReadyH.nil
  go_simp
  refine hK.out _ _ ?_ (fun hHeld => ?_)
  · (exact TOS.out _ (P0.alloc P0.size _))
  clear hK K
  try simp only [Act.put, List.getElem_toArray, List.getElem_cons_succ, List.getElem_cons_zero, List.setIfInBounds_toArray, List.set_cons_zero, List.set_cons_succ]
  refine wpAnyH_take (i := 25) (oi := _) (v := ?vr9_25) rfl (by kernel_rfl) (by kernel_rfl) (by kernel_rfl) (fun _ _ _ h => h) (Or.inl ⟨by rfl, ?hyr9_25⟩) (by assumption) ?restr9_25
  case hyr9_25 => (intro w hSw; (try dsimp only at hSw); go_simp <;> with_reducible rfl)
  try simp only [Act.put, List.getElem_toArray, List.getElem_cons_succ, List.getElem_cons_zero, List.setIfInBounds_toArray, List.set_cons_zero, List.set_cons_succ]
  refine wpAnyH_done (by kernel_rfl) ?_ _
  go_wp2
  go_ret
  refine ⟨WM.heap.size, some ⟨bm, 0, none⟩, some ⟨bm, 0, none⟩, some ⟨bm, 0, none⟩, some ⟨bm, 0, none⟩, 0, 0, 0, 0, by simp, ?_, RD1.out _ (P0.alloc P0.size _), fun e => (by cases e), RD2.out _ (P0.alloc P0.size _), fun e => (by cases e), RD3.out _ (P0.alloc P0.size _), fun e => (by cases e), RD4.out _ (P0.alloc P0.size _), fun e => (by cases e), (hB.trans (P0.mono hB.size)).alloc (hB.trans (P0.mono hB.size)).size _⟩
  simp only [zeros_length]
  exact heap_alloc_new _ _


end Go.Proofs.Ytcomldkihibfjaa
