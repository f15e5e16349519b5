/- Plain: all of the first so many; opaque pixels. -/
import Derived.Test.YtcomldkihibfjaaPlain
namespace Go.Proofs.Ytcomldkihibfjaa
open Go.RowKit
set_option linter.unusedVariables false

/-- All of the first n. -/
def allN (f : Nat → Bool) : Nat → Bool
  | 0 => true
  | n + 1 => allN f n && f n
theorem allN_false {f : Nat → Bool} {n : Nat} : ∀ {m : Nat}, n < m → f n = false → allN f m = false
  | 0, h, _ => by omega
  | m + 1, h, hf => by
    unfold allN
    rcases Nat.lt_or_ge n m with hlt | hge
    · rw [allN_false hlt hf]; rfl
    · have : n = m := by omega
      subst this
      rw [hf]; simp
/-- The alpha of a pixel is the greatest. -/
def opq (zs : List Int) (s : Int) (i j : Nat) : Bool := decide (zs.getD ((i : Int) * s + (j : Int)).toNat 0 = 255)
def rowOpq (zs : List Int) (s : Int) (n : Nat) (i : Nat) : Bool := allN (opq zs s i) n
def allOpq (zs : List Int) (s : Int) (n m : Nat) : Bool := allN (rowOpq zs s n) m

theorem succ_mul' (i : Nat) (s : Int) : ((i + 1 : Nat) : Int) * s = (i : Int) * s + s := by
  rw [show ((i + 1 : Nat) : Int) = (i : Int) + 1 from by omega, Int.add_mul, Int.one_mul]

theorem allN_true {f : Nat → Bool} : ∀ (m : Nat), (∀ n, n < m → f n = true) → allN f m = true
  | 0, _ => rfl
  | m + 1, h => by unfold allN; rw [allN_true m (fun n hn => h n (by omega)), h m (by omega)]; rfl
theorem allOpq_empty {zs : List Int} {s x0 y0 x1 y1 : Int} {wd ht : Nat} (hE : Empt x0 y0 x1 y1) (hw : x1 - x0 = wd) (hh : y1 - y0 = ht) : allOpq zs s wd ht = true := by
  unfold Empt at hE
  rcases hE with h | h
  · have : wd = 0 := by omega
    subst this
    exact allN_true _ (fun _ _ => rfl)
  · have : ht = 0 := by omega
    subst this
    rfl

end Go.Proofs.Ytcomldkihibfjaa
