/- bytes.Repeat of one byte 1, 2 times. -/
import Derived.Test.YtmhmahdojcajpaaNew
import Derived.Lib.MakeNoZero
import Derived.Lib.SlBuf
import Derived.Deep.RegionLaw
namespace Go.Proofs.Ytmhmahdojcajpaa
open Go.RowKit
set_option linter.unusedVariables false
set_option linter.unusedSimpArgs false

theorem mul_any (w : World) :
    Calls Try.prog 56 #[.int .u64 1, .int .u64 2] w fun e w' => e = .returned (.tuple #[.int .u64 0, .int .u64 2]) ∧ w = w' := by
  go_enter Try.func56, Try.ntmps56
  go_wp2_with fail
  refine (mul64_small 1 2 _ (by omega) (by omega) (by omega) (by omega) (by omega) (by omega)).mono ?_
  rintro e w1 ⟨rfl, rfl⟩
  go_wp2
  go_ret2
  exact ⟨rfl, rfl⟩

theorem below_setCellsN {B : Nat} {a : World} (b : Nat) (hb : B ≤ b) : ∀ (vs : List Value) (o : Nat) {w : World}, Below B a w → Below B a (w.setCells b o vs)
  | [], _, _, h => h
  | v :: r, o, _, h => below_setCellsN b hb r (o + 1) (h.setCell (p := ⟨b, o, none⟩) hb v)

theorem add0 (h j : Nat) : (⟨h, 0, none⟩ : Addr).add j = ⟨h, j, none⟩ := by unfold Addr.add; split <;> simp_all
/-- The first k cells of a new block hold 1, all n may be written. -/
structure Ones (w0 wr : World) (h n k : Nat) : Prop where
  below : Below w0.heap.size w0 wr
  there : ∀ j, j < n → (wr.cell? ⟨h, j, none⟩).isSome = true
  free : ∀ j, j < n → wr.frozen? ⟨h, j, none⟩ = false
  holds : ∀ j, j < k → wr.cell? ⟨h, j, none⟩ = some (.int .u8 1)
theorem Ones.drew {w0 wr : World} {h n k : Nat} (H : Ones w0 wr h n k) : Ones w0 wr.drew h n k := ⟨H.below.drew, H.there, H.free, H.holds⟩
/-- copy(b[k:], src) of m cells 1. -/
theorem Ones.copy {w0 wr : World} {h n k m cap : Nat} {ad : Addr} (H : Ones w0 wr h n k) (hh : w0.heap.size ≤ h) (hm : k + m ≤ n) (hs : ∀ j, j < m → wr.cell? (ad.add j) = some (.int .u8 1)) (ty : TypeId) :
    ∃ wr', (Builtin.copy_ #[24, 24] ty #[.slice (some ⟨h, k, none⟩) (n - k) (n - k), .slice (some ad) m cap]).run Try.prog wr = .ok (.int .i64 (m : Int)) wr' ∧ Ones w0 wr' h n (k + m) := by
  have hr := run_copy_cells (P := Try.prog) wr 24 24 ty 5 h k (n - k) (n - k) ad m cap (List.replicate m (Value.int .u8 1)) Try.underlying24 (by kernel_rfl) (by rw [List.length_replicate]; exact (Nat.min_eq_left (by omega)).symm)
    (fun j u hj => by
      obtain ⟨h1, h2⟩ := List.getElem?_eq_some_iff.1 hj
      rw [List.length_replicate] at h1
      rw [List.getElem_replicate] at h2
      subst h2
      exact hs j h1)
    (fun j hj => by rw [List.length_replicate] at hj; exact H.there _ (by omega)) (fun j hj => by rw [List.length_replicate] at hj; exact H.free _ (by omega))
    (fun u hu' => by obtain ⟨_, rfl⟩ := List.mem_replicate.1 hu'; rfl)
  rw [List.length_replicate] at hr
  refine ⟨_, hr, ?_⟩
  have hin := World.cell?_setCells_in h (List.replicate m (Value.int .u8 1)) k wr (fun j hj => by rw [List.length_replicate] at hj; exact H.there _ (by omega))
  have hout := World.cell?_setCells_out h (List.replicate m (Value.int .u8 1)) k wr
  refine ⟨below_setCellsN h hh _ _ H.below, ?_, ?_, ?_⟩
  · intro j hj
    by_cases h1 : k ≤ j ∧ j < k + m
    · obtain ⟨d, rfl⟩ : ∃ d, j = k + d := ⟨j - k, by omega⟩
      rw [hin d (by rw [List.length_replicate]; omega)]
      rfl
    · rw [hout ⟨h, j, none⟩ (fun _ _ => by rw [List.length_replicate]; show j < _ ∨ _ ≤ j; omega)]
      exact H.there j hj
  · intro j hj
    rw [World.frozen?_setCells]
    exact H.free j hj
  · intro j hj
    by_cases h1 : j < k
    · rw [hout ⟨h, j, none⟩ (fun _ _ => Or.inl h1)]
      exact H.holds j h1
    · obtain ⟨d, rfl⟩ : ∃ d, j = k + d := ⟨j - k, by omega⟩
      rw [hin d (by rw [List.length_replicate]; omega)]
      simp
theorem Ones.start (w : World) (cs : Array Value) (e : TypeId) (n : Nat) (hN : n ≤ cs.size) : Ones w ((w.alloc (.cells cs e)).drewN 2) w.heap.size n 0 where
  below := ⟨rfl, rfl, rfl, by simp, fun k hk => heap_alloc_old w _ hk⟩
  there := fun j hj => by
    rw [World.cell?_drewN, World.cell?_alloc_mark, Array.getElem?_eq_getElem (by omega)]
    rfl
  free := fun j _ => by
    rw [World.frozen?_drewN]
    have := World.frozen?_alloc_mark w cs e 0 0 j
    rw [this]
    simp
  holds := fun j hj => by omega

def OnesBack (w : World) (e : Ending) (w' : World) : Prop := ∃ h, e = .returned (.slice (some ⟨h, 0, none⟩) 2 2) ∧ Reads w' (some ⟨h, 0, none⟩) (List.replicate 2 1) ∧ Below w.heap.size w w'

theorem Ones.reads {w0 wr : World} {h n : Nat} (H : Ones w0 wr h n n) : Reads wr (some ⟨h, 0, none⟩) (List.replicate n 1) := by
  refine ⟨fun e => (by cases e), fun ad e j hj => ?_⟩
  injection e with e
  subst e
  rw [List.length_replicate] at hj
  have h0 := H.holds j hj
  have e1 : (⟨h, 0, none⟩ : Addr).add j = ⟨h, j, none⟩ := by unfold Addr.add; split <;> simp_all
  rw [e1, h0]
  simp [List.getD_eq_getElem?_getD, hj]

set_option maxRecDepth 100000 in
set_option maxHeartbeats 2000000 in
theorem repeat_any (B : Nat) (w : World) (hc : w.cell? ⟨B, 0, none⟩ = some (.int .u8 1)) :
    Calls Try.prog 42 #[.slice (some ⟨B, 0, none⟩) 1 1, .int .i64 2] w (OnesBack w) := by
  obtain ⟨cs, hrunM, hle, _⟩ := Lib.run_makeNoZero (P := Try.prog) w #[3] 24 5 Try.underlying24 2 (by omega)
  have hcall : (callFunc 57 #[.int .i64 2]).run Try.prog w = .ok (.value (.slice (some ⟨w.heap.size, 0, none⟩) 2 cs.size)) ((w.alloc (.cells cs 5)).drewN 2) := by
    rw [run_callFunc_extern Try.func57 (by kernel_rfl) (by kernel_rfl) (by kernel_rfl) (e := Extern.BytealgMakeNoZero.makeNoZero #[3] #[24]) (by kernel_rfl)]
    exact congrArg (fun r => Result.andThen r fun v w' => Result.ok (Next.value v) w') hrunM
  have O0 := Ones.start w cs 5 2 hle
  have hc1 : ((w.alloc (.cells cs 5)).drewN 2).cell? ⟨B, 0, none⟩ = some (.int .u8 1) := cell_kept hc O0.below
  obtain ⟨w1, hr1, O1⟩ := O0.copy (m := 1) (cap := 1) (ad := ⟨B, 0, none⟩) (Nat.le_refl _) (by omega) (fun j hj => by obtain rfl : j = 0 := Nat.lt_one_iff.1 hj
                                                                                                                      exact hc1) 3
  have i1 : (2 : Int) ≤ (cs.size : Int) := by omega
  have HO1 := Lib.hid O1
  have hr1' : (Builtin.copy_ #[24, 24] 3 #[.slice (some ⟨w.heap.size, 0, none⟩) 2 2, .slice (some ⟨B, 0, none⟩) 1 1]).run Try.prog ((w.alloc (.cells cs 5)).drewN 2) = .ok (.int .i64 1) w1 := hr1
  clear hrunM O0 hc1 O1 hc hr1
  go_enter Try.func42, Try.ntmps42
  go_wp2_with fail
  refine (mul_any _).mono ?_
  rintro e w2 ⟨rfl, rfl⟩
  go_wp2
  clear hcall hr1'
  go_loopw [10] (fun q wr => ∃ k : Nat, (k = 1 ∨ k = 2 ∨ k = 4 ∨ k = 8) ∧ k ≤ 2 ∧ q = .int .i64 k ∧ Hid (Ones w wr w.heap.size 2 k)) (fun q _ => (8 - intOf q).toNat)
  case atStart => exact ⟨1, Or.inl rfl, by omega, rfl, HO1⟩
  case round =>
    obtain ⟨k, hk, hkn, rfl, HO⟩ := hrel
    rcases hk with rfl | rfl | rfl | rfl
    · obtain ⟨w2, hr2, O2⟩ := HO.out.drew.copy (m := 1) (cap := 2) (ad := ⟨w.heap.size, 0, none⟩) (Nat.le_refl _) (by omega) (fun j hj => (by rw [add0]; exact HO.out.holds j hj)) 3
      have hr2' : (Builtin.copy_ #[24, 24] 3 #[.slice (some ⟨w.heap.size, 1, none⟩) 1 1, .slice (some ⟨w.heap.size, 0, none⟩) 1 2]).run Try.prog wr.drew = .ok (.int .i64 1) w2 := hr2
      have HO2 := Lib.hid O2
      have hmin : min (1 : Int) 2 = 1 := by omega
      clear hr2 O2
      go_wp2
      go_region
      all_goals
        go_wp2
        go_roundw
        case rel => exact ⟨2, by omega, by omega, rfl, HO2⟩
        case measure => simp [intOf]
    · go_wp2
      go_ret
      exact ⟨w.heap.size, rfl, HO.out.reads, HO.out.below⟩
    · omega
    · omega
end Go.Proofs.Ytmhmahdojcajpaa
