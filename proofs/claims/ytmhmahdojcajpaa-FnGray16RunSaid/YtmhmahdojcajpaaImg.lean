/- Contracts: bytesOf, rectangle, rect, toGray16, PixOffset, Point.In; of the laws' fitsGray16 and atGray16; of impl.Gray16Offset. -/
import Derived.Test.YtmhmahdojcajpaaFits
import Derived.Laws.AppendOwnNone
namespace Go.Proofs.Ytmhmahdojcajpaa
open Go.RowKit
set_option linter.unusedVariables false

theorem info5 : (Try.prog.info? 5).map (fun i => (i.zero, i.size, i.bytes)) = some (some (.int .u8 0), 1, 1) := by kernel_rfl

theorem bytesOf_any (A : Option Addr) (c : Nat) (zs : List Int) (w : World) (hr : Reads w A zs) (hl : Small zs) (hn : A = none → c = 0) :
    Calls Try.prog 58 #[.slice A zs.length c] w (BytesBack zs w) := by
  obtain ⟨i0, hi, hz0, hz1, hz2⟩ := info_parts info5
  rcases A with _ | ad
  · obtain rfl : c = 0 := hn rfl
    obtain rfl : zs = [] := hr.1 rfl
    clear hr hl hn
    go_enter Try.func58, Try.ntmps58
    go_wp2_with (at_builtin; refine wpList_append_own_none rfl _ _ 24 rfl w.heap.size 5 i0 1 Try.underlying24 hi _ 0 [] rfl (World.ownsRow_nil _ _ _ _) rfl ?_)
    go_ret
    exact ⟨_, _, rfl, World.ownsRow_nil _ _ _ _, Below.refl _ _⟩
  · have H1 := Lib.hid (bytes_news hr)
    have H2 := Lib.hid (bytes_one zs)
    have H3 : Hid (0 + zs.length ≤ maxLen) := by unfold Small at hl; unfold Hid maxLen; omega
    have H4 : Hid ((0 + zs.length) * 1 ≤ 140737488355328) := by unfold Small at hl; unfold Hid; omega
    clear hr hn hl
    go_enter Try.func58, Try.ntmps58
    go_wp2_with (at_builtin; refine wpList_append_own _ rfl _ _ 24 rfl w.heap.size 5 i0 (.int .u8 0) 1 1 Try.underlying24 hi hz0 hz1 hz2 rfl (by decide) (.slice none 0 0) 0 [] rfl (World.ownsRow_nil _ _ _ _) ad zs.length c (zs.map (Value.int .u8)) rfl (by simp) H1.out H2.out H3.out H4.out (Nat.le_refl _) ?_; intro v1 w1 hown hg hnil)
    go_ret
    simp only [Nat.zero_add, List.nil_append] at hown
    obtain ⟨A, c', rfl⟩ := own_form hown
    exact ⟨A, c', rfl, hown, (Below.refl _ _).grown hg (Nat.le_refl _) (by simp [Value.ownBlock])⟩

theorem rectangle_any (x0 y0 x1 y1 : Int) (w : World) :
    Calls Try.prog 53 #[.agg #[.int .i64 x0, .int .i64 y0, .int .i64 x1, .int .i64 y1]] w fun e w' => e = .returned (.agg #[.int .i64 x0, .int .i64 y0, .int .i64 x1, .int .i64 y1]) ∧ Below w.heap.size w w' := by
  go_enter Try.func53, Try.ntmps53
  go_wp2
  exact bodyPost_ret (v := .agg #[.int .i64 x0, .int .i64 y0, .int .i64 x1, .int .i64 y1]) (by simp [results, Try.results53, go_sem]) rfl ⟨rfl, ((Below.refl _ _).alloc (Nat.le_refl _) _).alloc (by simp) _⟩

theorem rect_any (x0 y0 x1 y1 : Int) (w : World) :
    Calls Try.prog 60 #[.agg #[.int .i64 x0, .int .i64 y0, .int .i64 x1, .int .i64 y1]] w fun e w' => e = .returned (.agg #[.int .i64 x0, .int .i64 y0, .int .i64 x1, .int .i64 y1]) ∧ Below w.heap.size w w' := by
  go_enter Try.func60, Try.ntmps60
  go_wp2
  exact bodyPost_ret (v := .agg #[.int .i64 x0, .int .i64 y0, .int .i64 x1, .int .i64 y1]) (by simp [results, Try.results60, go_sem]) rfl ⟨rfl, ((Below.refl _ _).alloc (Nat.le_refl _) _).alloc (by simp) _⟩

/-- What a call hands back that makes an image of its own with these bytes. -/
def ImgBack (zs : List Int) (s x0 y0 x1 y1 : Int) (w : World) (e : Ending) (w' : World) : Prop :=
  ∃ (g : Nat) (A : Option Addr) (c : Nat), e = .returned (.pointer (some ⟨g, 0, none⟩)) ∧ w.heap.size ≤ g ∧ w'.heap[g]? = some (.cells #[.slice A zs.length c, .int .i64 s, .int .i64 x0, .int .i64 y0, .int .i64 x1, .int .i64 y1] 99 (0, 0)) ∧
    w'.ownsRow w.heap.size 5 1 (.slice A zs.length c) zs.length (zs.map (Value.int .u8)) ∧ Below w.heap.size w w'

theorem to_any (x0 y0 x1 y1 s : Int) (A : Option Addr) (c : Nat) (zs : List Int) (w : World) (hr : Reads w A zs) (hl : Small zs) (hn : A = none → c = 0) :
    Calls Try.prog 44 #[.agg #[.int .i64 x0, .int .i64 y0, .int .i64 x1, .int .i64 y1, .int .i64 s, .slice A zs.length c]] w (ImgBack zs s x0 y0 x1 y1 w) := by
  have HR := Lib.hid hr
  have HN := Lib.hid hn
  clear hr hn
  go_enter Try.func44, Try.ntmps44
  go_wp2
  go_region_held3 (fun w' => w.heap.size < w'.heap.size ∧ Below w.heap.size w w' ∧ w'.cell? ⟨w.heap.size, 0, none⟩ = some (.int .i64 x0) ∧ w'.cell? ⟨w.heap.size, 1, none⟩ = some (.int .i64 y0) ∧ w'.cell? ⟨w.heap.size, 2, none⟩ = some (.int .i64 x1) ∧ w'.cell? ⟨w.heap.size, 3, none⟩ = some (.int .i64 y1) ∧ w'.cell? ⟨w.heap.size, 4, none⟩ = some (.int .i64 s) ∧ w'.cell? ⟨w.heap.size, 5, none⟩ = some (.slice A zs.length c))
    (first | exact keepD6 (start6 _ _ _ _ _ _ _ _) | exact keep6 (by assumption) (by assumption) | exact keepA6 (by assumption))
    (first | (go_at_call 58; refine (bytesOf_any A c zs _ ?_ hl HN.out).mono ?_; exact HR.out.below (heldB (by assumption)); rintro e w1 ⟨A', c', rfl, hown, hb1⟩) | (go_at_call 53; refine (rectangle_any x0 y0 x1 y1 _).mono ?_; rintro e w2 ⟨rfl, hb2⟩))
  rename_i hS
  go_wp2
  go_ret
  exact ⟨w2.heap.size, A', c', rfl, by have := hb1.size; have := hb2.size; simp at *; omega, heap_alloc_new _ _, (ownsRow_below (ownsRow_base hown (by simp)) hb2).alloc _, hS.2.1⟩

end Go.Proofs.Ytmhmahdojcajpaa
