/- The walk of the law FnGray16Opaque: a gray image is always opaque. -/
import Derived.Test.YtmhmahdojcajpaaImg2
namespace Go.Proofs.Ytmhmahdojcajpaa
open Go.RowKit
set_option linter.unusedVariables false

theorem opaqueM (g : Nat) (w : World) : Calls Try.prog 47 #[.pointer (some ⟨g, 0, none⟩)] w fun e w' => e = .returned (.bool true) ∧ w = w' := by
  go_enter Try.func47, Try.ntmps47
  go_wp2
  go_ret
  exact ⟨rfl, rfl⟩
theorem implOpaque (x0 y0 x1 y1 s : Int) (A : Option Addr) (c : Nat) (zs : List Int) (w : World) (hr : Hid (Reads w A zs)) (hy : Hid (Bytes zs)) (hl : Small zs) (hn : Hid (A = none → c = 0)) : Calls Try.prog 23 #[.agg #[.int .i64 x0, .int .i64 y0, .int .i64 x1, .int .i64 y1, .int .i64 s, .slice A zs.length c]] w fun e w' => e = .returned (.bool true) ∧ Below w.heap.size w w' := by
  go_enter Try.func23, Try.ntmps23
  go_wp2_with fail
  refine (to_any x0 y0 x1 y1 s A c zs _ (hr.out.below ((Below.refl _ _).alloc (Nat.le_refl _) _)) hl hn.out).mono ?_
  rintro e w1 ⟨g, A', c', rfl, hgb, hg, hown, hb1⟩
  have hB : Below w.heap.size w w1 := ((Below.refl _ _).alloc (Nat.le_refl _) _).trans (hb1.mono (by simp))
  clear hg hown hb1
  go_wp2_with fail
  refine (opaqueM g _).mono ?_
  rintro e w2 ⟨rfl, rfl⟩
  go_wp2
  go_ret
  exact ⟨rfl, hB⟩
theorem walk_opaque (x0 y0 x1 y1 s : Int) (A : Option Addr) (c : Nat) (zs : List Int) (w : World) (hr : Hid (Reads w A zs)) (hy : Hid (Bytes zs)) (hl : Small zs) (hn : Hid (A = none → c = 0)) : Calls Try.prog 5 #[.agg #[.int .i64 x0, .int .i64 y0, .int .i64 x1, .int .i64 y1, .int .i64 s, .slice A zs.length c]] w fun e w' => e = .returned (.bool true) ∧ Below w.heap.size w w' := by
  by_cases hF' : Fits x0 y0 x1 y1 s 2 zs.length
  · have hF := Lib.hid hF'
    clear hF'
    go_enter Try.func5, Try.ntmps5
    go_wp2_with fail
    refine (fitsK_any x0 y0 x1 y1 s A c zs true (by simp [hF.out]) _).mono ?_
    rintro e w1 ⟨rfl, hb1⟩
    obtain ⟨hz1, hB1, c10, c11, c12, c13, c14, c15⟩ := keep6 hb1 (start6 w _ _ _ _ _ _ _ )
    clear hb1
    go_wp2_with fail
    refine (implOpaque x0 y0 x1 y1 s A c zs _ (hr.out.below hB1) hy hl hn).mono ?_
    rintro e w2 ⟨rfl, hb2⟩
    go_wp2
    go_ret
    exact ⟨by simp, hB1.trans (hb2.mono hB1.size)⟩
  · have hF := Lib.hid hF'
    clear hF'
    go_enter Try.func5, Try.ntmps5
    go_wp2_with fail
    refine (fitsK_any x0 y0 x1 y1 s A c zs false (by simp [hF.out]) _).mono ?_
    rintro e w1 ⟨rfl, hb1⟩
    obtain ⟨hz1, hB1, c10, c11, c12, c13, c14, c15⟩ := keep6 hb1 (start6 w _ _ _ _ _ _ _ )
    clear hb1
    go_wp2
    go_ret
    exact ⟨by simp, hB1⟩

end Go.Proofs.Ytmhmahdojcajpaa
