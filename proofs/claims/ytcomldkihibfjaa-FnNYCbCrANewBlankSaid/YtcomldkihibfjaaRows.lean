/-
  No cell of these rows narrows 'for every input' (looked for: loops, veiled, ifaces, maps, wideKeys, modest, calm, conditions, laid).
  DERIVED. THE GIVEN ROWS OF THIS SEAT. 7 by the template 'for every input the law returns true; each argument reads behind the call as it read before'; 0 by the template 'total and deterministic' (their statements: YtcomldkihibfjaaTotals.lean).
  GIVEN WITH THE SEED: the statements are not yours to turn. If you find one false, say at which input.
  Laid BY PROGRAM, IN A SANDBOX (cutbox-rows.mjs): the forced cells as the released guide's own fill.sh prints them over the translation 0f22becc9539634b… (all of the seat's roots in one cut). By AI agents, Wed Nov 11 2026. No macro, syntax, notation, axiom, sorry.
-/
import Derived.Test.YtcomldkihibfjaaChecked
import GoSem.Claim
import GoSem.ClaimJoined
import GoSem.ClaimMapViews
import Derived.JoinedTies
import Derived.KernelRfl
namespace Go.Proofs.Ytcomldkihibfjaa
/- THE CELL 'sum', in the pinned program and in every row, IS THE sha256 OF THE DUMP (.gsa) THAT YtcomldkihibfjaaProg.lean LOADS. Nothing in Lean hashes anything: it is a label: what it is worth is what the hold of that sum in a sandbox is worth. -/
noncomputable def Try.pinned : Pinned := { name := "ytcomldkihibfjaa", sum := "0f22becc9539634bd531610353d80467b19c1410e24800918f43886b33d0013d", checked := Try.checked }
namespace Rows
def none {H : Type} : Left H := { results := [], args := [] }

/-- 'laws.FnNYCbCrANew': WHATEVER THE INPUT: true; the input reads as it did. -/
def fnNYCbCrANewSpec : ChangeSpec := { name := "fnNYCbCrANew", fn := fun _ => fun
  | [d1, d2] => { results := [.lit (.bool true)], args := [d1, d2] }
  | _ => none }
def fnNYCbCrANewRow : OpenClaim := { program := "ytcomldkihibfjaa", sum := "0f22becc9539634bd531610353d80467b19c1410e24800918f43886b33d0013d", func := "lib-sheetfilm/laws.FnNYCbCrANew", spec := "fnNYCbCrANew", apart := false }
def FnNYCbCrANewSaid : Prop := fnNYCbCrANewRow.holds Try.pinned (OpenSpec.ofChange fnNYCbCrANewSpec)

/-- ITS FALSE NEIGHBOUR: 'it returns false'. Refute it at one input. -/
def fnNYCbCrANewWrong : ChangeSpec := { name := "fnNYCbCrANew", fn := fun _ => fun
  | [d1, d2] => { results := [.lit (.bool false)], args := [d1, d2] }
  | _ => none }
def FnNYCbCrANewWrongFalsely : Prop := fnNYCbCrANewRow.holds Try.pinned (OpenSpec.ofChange fnNYCbCrANewWrong)

/-- 'laws.FnNYCbCrASub': WHATEVER THE INPUT: true; the input reads as it did. -/
def fnNYCbCrASubSpec : ChangeSpec := { name := "fnNYCbCrASub", fn := fun _ => fun
  | [d1, d2, d3, d4] => { results := [.lit (.bool true)], args := [d1, d2, d3, d4] }
  | _ => none }
def fnNYCbCrASubRow : OpenClaim := { program := "ytcomldkihibfjaa", sum := "0f22becc9539634bd531610353d80467b19c1410e24800918f43886b33d0013d", func := "lib-sheetfilm/laws.FnNYCbCrASub", spec := "fnNYCbCrASub", apart := false }
def FnNYCbCrASubSaid : Prop := fnNYCbCrASubRow.holds Try.pinned (OpenSpec.ofChange fnNYCbCrASubSpec)

/-- ITS FALSE NEIGHBOUR: 'it returns false'. Refute it at one input. -/
def fnNYCbCrASubWrong : ChangeSpec := { name := "fnNYCbCrASub", fn := fun _ => fun
  | [d1, d2, d3, d4] => { results := [.lit (.bool false)], args := [d1, d2, d3, d4] }
  | _ => none }
def FnNYCbCrASubWrongFalsely : Prop := fnNYCbCrASubRow.holds Try.pinned (OpenSpec.ofChange fnNYCbCrASubWrong)

/-- 'laws.FnNYCbCrAOpaque': WHATEVER THE INPUT: true; the input reads as it did. -/
def fnNYCbCrAOpaqueSpec : ChangeSpec := { name := "fnNYCbCrAOpaque", fn := fun _ => fun
  | [d] => { results := [.lit (.bool true)], args := [d] }
  | _ => none }
def fnNYCbCrAOpaqueRow : OpenClaim := { program := "ytcomldkihibfjaa", sum := "0f22becc9539634bd531610353d80467b19c1410e24800918f43886b33d0013d", func := "lib-sheetfilm/laws.FnNYCbCrAOpaque", spec := "fnNYCbCrAOpaque", apart := false }
def FnNYCbCrAOpaqueSaid : Prop := fnNYCbCrAOpaqueRow.holds Try.pinned (OpenSpec.ofChange fnNYCbCrAOpaqueSpec)

/-- ITS FALSE NEIGHBOUR: 'it returns false'. Refute it at one input. -/
def fnNYCbCrAOpaqueWrong : ChangeSpec := { name := "fnNYCbCrAOpaque", fn := fun _ => fun
  | [d] => { results := [.lit (.bool false)], args := [d] }
  | _ => none }
def FnNYCbCrAOpaqueWrongFalsely : Prop := fnNYCbCrAOpaqueRow.holds Try.pinned (OpenSpec.ofChange fnNYCbCrAOpaqueWrong)

/-- 'laws.FnNYCbCrANewBlank': WHATEVER THE INPUT: true; the input reads as it did. -/
def fnNYCbCrANewBlankSpec : ChangeSpec := { name := "fnNYCbCrANewBlank", fn := fun _ => fun
  | [d1, d2] => { results := [.lit (.bool true)], args := [d1, d2] }
  | _ => none }
def fnNYCbCrANewBlankRow : OpenClaim := { program := "ytcomldkihibfjaa", sum := "0f22becc9539634bd531610353d80467b19c1410e24800918f43886b33d0013d", func := "lib-sheetfilm/laws.FnNYCbCrANewBlank", spec := "fnNYCbCrANewBlank", unfollowed := true, recurses := true, apart := false }
def FnNYCbCrANewBlankSaid : Prop := fnNYCbCrANewBlankRow.holds Try.pinned (OpenSpec.ofChange fnNYCbCrANewBlankSpec)

/-- ITS FALSE NEIGHBOUR: 'it returns false'. Refute it at one input. -/
def fnNYCbCrANewBlankWrong : ChangeSpec := { name := "fnNYCbCrANewBlank", fn := fun _ => fun
  | [d1, d2] => { results := [.lit (.bool false)], args := [d1, d2] }
  | _ => none }
def FnNYCbCrANewBlankWrongFalsely : Prop := fnNYCbCrANewBlankRow.holds Try.pinned (OpenSpec.ofChange fnNYCbCrANewBlankWrong)

/-- 'laws.FnNYCbCrAAt': WHATEVER THE INPUT: true; the input reads as it did. -/
def fnNYCbCrAAtSpec : ChangeSpec := { name := "fnNYCbCrAAt", fn := fun _ => fun
  | [d1, d2, d3] => { results := [.lit (.bool true)], args := [d1, d2, d3] }
  | _ => none }
def fnNYCbCrAAtRow : OpenClaim := { program := "ytcomldkihibfjaa", sum := "0f22becc9539634bd531610353d80467b19c1410e24800918f43886b33d0013d", func := "lib-sheetfilm/laws.FnNYCbCrAAt", spec := "fnNYCbCrAAt", apart := false }
def FnNYCbCrAAtSaid : Prop := fnNYCbCrAAtRow.holds Try.pinned (OpenSpec.ofChange fnNYCbCrAAtSpec)

/-- ITS FALSE NEIGHBOUR: 'it returns false'. Refute it at one input. -/
def fnNYCbCrAAtWrong : ChangeSpec := { name := "fnNYCbCrAAt", fn := fun _ => fun
  | [d1, d2, d3] => { results := [.lit (.bool false)], args := [d1, d2, d3] }
  | _ => none }
def FnNYCbCrAAtWrongFalsely : Prop := fnNYCbCrAAtRow.holds Try.pinned (OpenSpec.ofChange fnNYCbCrAAtWrong)

/-- 'laws.FnNYCbCrAAtOutside': WHATEVER THE INPUT: true; the input reads as it did. -/
def fnNYCbCrAAtOutsideSpec : ChangeSpec := { name := "fnNYCbCrAAtOutside", fn := fun _ => fun
  | [d1, d2, d3] => { results := [.lit (.bool true)], args := [d1, d2, d3] }
  | _ => none }
def fnNYCbCrAAtOutsideRow : OpenClaim := { program := "ytcomldkihibfjaa", sum := "0f22becc9539634bd531610353d80467b19c1410e24800918f43886b33d0013d", func := "lib-sheetfilm/laws.FnNYCbCrAAtOutside", spec := "fnNYCbCrAAtOutside", apart := false }
def FnNYCbCrAAtOutsideSaid : Prop := fnNYCbCrAAtOutsideRow.holds Try.pinned (OpenSpec.ofChange fnNYCbCrAAtOutsideSpec)

/-- ITS FALSE NEIGHBOUR: 'it returns false'. Refute it at one input. -/
def fnNYCbCrAAtOutsideWrong : ChangeSpec := { name := "fnNYCbCrAAtOutside", fn := fun _ => fun
  | [d1, d2, d3] => { results := [.lit (.bool false)], args := [d1, d2, d3] }
  | _ => none }
def FnNYCbCrAAtOutsideWrongFalsely : Prop := fnNYCbCrAAtOutsideRow.holds Try.pinned (OpenSpec.ofChange fnNYCbCrAAtOutsideWrong)

/-- 'laws.FnNYCbCrAChroma': WHATEVER THE INPUT: true; the input reads as it did. -/
def fnNYCbCrAChromaSpec : ChangeSpec := { name := "fnNYCbCrAChroma", fn := fun _ => fun
  | [d1, d2, d3] => { results := [.lit (.bool true)], args := [d1, d2, d3] }
  | _ => none }
def fnNYCbCrAChromaRow : OpenClaim := { program := "ytcomldkihibfjaa", sum := "0f22becc9539634bd531610353d80467b19c1410e24800918f43886b33d0013d", func := "lib-sheetfilm/laws.FnNYCbCrAChroma", spec := "fnNYCbCrAChroma", apart := false }
def FnNYCbCrAChromaSaid : Prop := fnNYCbCrAChromaRow.holds Try.pinned (OpenSpec.ofChange fnNYCbCrAChromaSpec)

/-- ITS FALSE NEIGHBOUR: 'it returns false'. Refute it at one input. -/
def fnNYCbCrAChromaWrong : ChangeSpec := { name := "fnNYCbCrAChroma", fn := fun _ => fun
  | [d1, d2, d3] => { results := [.lit (.bool false)], args := [d1, d2, d3] }
  | _ => none }
def FnNYCbCrAChromaWrongFalsely : Prop := fnNYCbCrAChromaRow.holds Try.pinned (OpenSpec.ofChange fnNYCbCrAChromaWrong)

/- THE SECOND FORM. 'bulk': how many values and letters a reading holds, each counted each time it is reached (what is shared counts as often as it is met; a slice's spare places count too). A statement '..UptoSaid' is the law's where the arguments, and the package variables that the reading takes, are together of bulk at most 1048576: NARROWER than '..Said'. Prove '..Said' where nothing that the law and all that it calls make is longer than what came in: it says more and counts as full. Else prove '..UptoSaid'. A law counts once. -/
mutual
def uptoBulk {H : Type} : DataW H → Nat
  | .lit (.string bytes) => bytes.length + 1
  | .lit _ => 1
  | .nil => 1
  | .ptr d => uptoBulk d + 1
  | .slice elems spare => uptoBulkAll elems + uptoBulkAll spare + 1
  | .agg parts => uptoBulkAll parts + 1
  | .iface _ d => uptoBulk d + 1
  | .map entries => uptoBulkEntries entries + 1
  | .held _ => 1
def uptoBulkAll {H : Type} : List (DataW H) → Nat
  | [] => 0
  | d :: r => uptoBulk d + uptoBulkAll r
def uptoBulkEntries {H : Type} : List (Lit × DataW H) → Nat
  | [] => 0
  | x :: r => uptoBulkEntry x + uptoBulkEntries r
def uptoBulkEntry {H : Type} : Lit × DataW H → Nat
  | (.string bytes, d) => bytes.length + uptoBulk d + 1
  | (_, d) => uptoBulk d + 1
 end
def uptoSmall : (H : Type) → List (DataW H) → Bool := fun _ ds => decide (uptoBulkAll ds ≤ 1048576)
def OpenSpec.upto (s : _root_.Go.ChangeSpec) : _root_.Go.OpenSpec := { _root_.Go.OpenSpec.ofChange s with cond := some uptoSmall }

/-- 'laws.FnNYCbCrANew', WHERE WHAT IT READS IS OF BULK AT MOST 1048576: true; the input reads as it did. -/
def fnNYCbCrANewUptoRow : OpenClaim := { program := "ytcomldkihibfjaa", sum := "0f22becc9539634bd531610353d80467b19c1410e24800918f43886b33d0013d", func := "lib-sheetfilm/laws.FnNYCbCrANew", spec := "fnNYCbCrANew", apart := false, narrowed := true }
def FnNYCbCrANewUptoSaid : Prop := fnNYCbCrANewUptoRow.holds Try.pinned (OpenSpec.upto fnNYCbCrANewSpec)

/-- 'laws.FnNYCbCrASub', WHERE WHAT IT READS IS OF BULK AT MOST 1048576: true; the input reads as it did. -/
def fnNYCbCrASubUptoRow : OpenClaim := { program := "ytcomldkihibfjaa", sum := "0f22becc9539634bd531610353d80467b19c1410e24800918f43886b33d0013d", func := "lib-sheetfilm/laws.FnNYCbCrASub", spec := "fnNYCbCrASub", apart := false, narrowed := true }
def FnNYCbCrASubUptoSaid : Prop := fnNYCbCrASubUptoRow.holds Try.pinned (OpenSpec.upto fnNYCbCrASubSpec)

/-- 'laws.FnNYCbCrAOpaque', WHERE WHAT IT READS IS OF BULK AT MOST 1048576: true; the input reads as it did. -/
def fnNYCbCrAOpaqueUptoRow : OpenClaim := { program := "ytcomldkihibfjaa", sum := "0f22becc9539634bd531610353d80467b19c1410e24800918f43886b33d0013d", func := "lib-sheetfilm/laws.FnNYCbCrAOpaque", spec := "fnNYCbCrAOpaque", apart := false, narrowed := true }
def FnNYCbCrAOpaqueUptoSaid : Prop := fnNYCbCrAOpaqueUptoRow.holds Try.pinned (OpenSpec.upto fnNYCbCrAOpaqueSpec)

/-- 'laws.FnNYCbCrANewBlank', WHERE WHAT IT READS IS OF BULK AT MOST 1048576: true; the input reads as it did. -/
def fnNYCbCrANewBlankUptoRow : OpenClaim := { program := "ytcomldkihibfjaa", sum := "0f22becc9539634bd531610353d80467b19c1410e24800918f43886b33d0013d", func := "lib-sheetfilm/laws.FnNYCbCrANewBlank", spec := "fnNYCbCrANewBlank", unfollowed := true, recurses := true, apart := false, narrowed := true }
def FnNYCbCrANewBlankUptoSaid : Prop := fnNYCbCrANewBlankUptoRow.holds Try.pinned (OpenSpec.upto fnNYCbCrANewBlankSpec)

/-- 'laws.FnNYCbCrAAt', WHERE WHAT IT READS IS OF BULK AT MOST 1048576: true; the input reads as it did. -/
def fnNYCbCrAAtUptoRow : OpenClaim := { program := "ytcomldkihibfjaa", sum := "0f22becc9539634bd531610353d80467b19c1410e24800918f43886b33d0013d", func := "lib-sheetfilm/laws.FnNYCbCrAAt", spec := "fnNYCbCrAAt", apart := false, narrowed := true }
def FnNYCbCrAAtUptoSaid : Prop := fnNYCbCrAAtUptoRow.holds Try.pinned (OpenSpec.upto fnNYCbCrAAtSpec)

/-- 'laws.FnNYCbCrAAtOutside', WHERE WHAT IT READS IS OF BULK AT MOST 1048576: true; the input reads as it did. -/
def fnNYCbCrAAtOutsideUptoRow : OpenClaim := { program := "ytcomldkihibfjaa", sum := "0f22becc9539634bd531610353d80467b19c1410e24800918f43886b33d0013d", func := "lib-sheetfilm/laws.FnNYCbCrAAtOutside", spec := "fnNYCbCrAAtOutside", apart := false, narrowed := true }
def FnNYCbCrAAtOutsideUptoSaid : Prop := fnNYCbCrAAtOutsideUptoRow.holds Try.pinned (OpenSpec.upto fnNYCbCrAAtOutsideSpec)

/-- 'laws.FnNYCbCrAChroma', WHERE WHAT IT READS IS OF BULK AT MOST 1048576: true; the input reads as it did. -/
def fnNYCbCrAChromaUptoRow : OpenClaim := { program := "ytcomldkihibfjaa", sum := "0f22becc9539634bd531610353d80467b19c1410e24800918f43886b33d0013d", func := "lib-sheetfilm/laws.FnNYCbCrAChroma", spec := "fnNYCbCrAChroma", apart := false, narrowed := true }
def FnNYCbCrAChromaUptoSaid : Prop := fnNYCbCrAChromaUptoRow.holds Try.pinned (OpenSpec.upto fnNYCbCrAChromaSpec)

end Rows
end Go.Proofs.Ytcomldkihibfjaa
