/-
  No cell of these rows narrows 'for every input' (looked for: loops, veiled, ifaces, maps, wideKeys, modest, calm, conditions, laid).
  DERIVED. THE GIVEN ROWS OF THIS SEAT. 13 by the template 'for every input the law returns true; each argument reads behind the call as it read before'; 0 by the template 'total and deterministic' (their statements: YthpgfmgjfadjhaaTotals.lean).
  GIVEN WITH THE SEED: the statements are not yours to turn. If you find one false, say at which input.
  Laid BY PROGRAM, IN A SANDBOX (cutbox-rows.mjs): the forced cells as the released guide's own fill.sh prints them over the translation 40d5f54ad3cb216b… (all of the seat's roots in one cut). By AI agents, Wed Nov 11 2026. No macro, syntax, notation, axiom, sorry.
-/
import Derived.Test.YthpgfmgjfadjhaaChecked
import GoSem.Claim
import GoSem.ClaimJoined
import GoSem.ClaimMapViews
import Derived.JoinedTies
import Derived.KernelRfl
namespace Go.Proofs.Ythpgfmgjfadjhaa
/- THE CELL 'sum', in the pinned program and in every row, IS THE sha256 OF THE DUMP (.gsa) THAT YthpgfmgjfadjhaaProg.lean LOADS. Nothing in Lean hashes anything: it is a label: what it is worth is what the hold of that sum in a sandbox is worth. -/
noncomputable def Try.pinned : Pinned := { name := "ythpgfmgjfadjhaa", sum := "40d5f54ad3cb216b729592e549334df60fa610853bd57a847f7a764f2d402d8a", checked := Try.checked }
namespace Rows
def none {H : Type} : Left H := { results := [], args := [] }

/-- 'laws.FnNRGBA64Offset': WHATEVER THE INPUT: true; the input reads as it did. -/
def fnNRGBA64OffsetSpec : ChangeSpec := { name := "fnNRGBA64Offset", fn := fun _ => fun
  | [d1, d2, d3] => { results := [.lit (.bool true)], args := [d1, d2, d3] }
  | _ => none }
def fnNRGBA64OffsetRow : OpenClaim := { program := "ythpgfmgjfadjhaa", sum := "40d5f54ad3cb216b729592e549334df60fa610853bd57a847f7a764f2d402d8a", func := "lib-sheetfilm/laws.FnNRGBA64Offset", spec := "fnNRGBA64Offset", apart := false }
def FnNRGBA64OffsetSaid : Prop := fnNRGBA64OffsetRow.holds Try.pinned (OpenSpec.ofChange fnNRGBA64OffsetSpec)

/-- ITS FALSE NEIGHBOUR: 'it returns false'. Refute it at one input. -/
def fnNRGBA64OffsetWrong : ChangeSpec := { name := "fnNRGBA64Offset", fn := fun _ => fun
  | [d1, d2, d3] => { results := [.lit (.bool false)], args := [d1, d2, d3] }
  | _ => none }
def FnNRGBA64OffsetWrongFalsely : Prop := fnNRGBA64OffsetRow.holds Try.pinned (OpenSpec.ofChange fnNRGBA64OffsetWrong)

/-- 'laws.FnNRGBA64OffsetAnywhere': WHATEVER THE INPUT: true; the input reads as it did. -/
def fnNRGBA64OffsetAnywhereSpec : ChangeSpec := { name := "fnNRGBA64OffsetAnywhere", fn := fun _ => fun
  | [d1, d2, d3] => { results := [.lit (.bool true)], args := [d1, d2, d3] }
  | _ => none }
def fnNRGBA64OffsetAnywhereRow : OpenClaim := { program := "ythpgfmgjfadjhaa", sum := "40d5f54ad3cb216b729592e549334df60fa610853bd57a847f7a764f2d402d8a", func := "lib-sheetfilm/laws.FnNRGBA64OffsetAnywhere", spec := "fnNRGBA64OffsetAnywhere", apart := false }
def FnNRGBA64OffsetAnywhereSaid : Prop := fnNRGBA64OffsetAnywhereRow.holds Try.pinned (OpenSpec.ofChange fnNRGBA64OffsetAnywhereSpec)

/-- ITS FALSE NEIGHBOUR: 'it returns false'. Refute it at one input. -/
def fnNRGBA64OffsetAnywhereWrong : ChangeSpec := { name := "fnNRGBA64OffsetAnywhere", fn := fun _ => fun
  | [d1, d2, d3] => { results := [.lit (.bool false)], args := [d1, d2, d3] }
  | _ => none }
def FnNRGBA64OffsetAnywhereWrongFalsely : Prop := fnNRGBA64OffsetAnywhereRow.holds Try.pinned (OpenSpec.ofChange fnNRGBA64OffsetAnywhereWrong)

/-- 'laws.FnNRGBA64At': WHATEVER THE INPUT: true; the input reads as it did. -/
def fnNRGBA64AtSpec : ChangeSpec := { name := "fnNRGBA64At", fn := fun _ => fun
  | [d1, d2, d3] => { results := [.lit (.bool true)], args := [d1, d2, d3] }
  | _ => none }
def fnNRGBA64AtRow : OpenClaim := { program := "ythpgfmgjfadjhaa", sum := "40d5f54ad3cb216b729592e549334df60fa610853bd57a847f7a764f2d402d8a", func := "lib-sheetfilm/laws.FnNRGBA64At", spec := "fnNRGBA64At", apart := false }
def FnNRGBA64AtSaid : Prop := fnNRGBA64AtRow.holds Try.pinned (OpenSpec.ofChange fnNRGBA64AtSpec)

/-- ITS FALSE NEIGHBOUR: 'it returns false'. Refute it at one input. -/
def fnNRGBA64AtWrong : ChangeSpec := { name := "fnNRGBA64At", fn := fun _ => fun
  | [d1, d2, d3] => { results := [.lit (.bool false)], args := [d1, d2, d3] }
  | _ => none }
def FnNRGBA64AtWrongFalsely : Prop := fnNRGBA64AtRow.holds Try.pinned (OpenSpec.ofChange fnNRGBA64AtWrong)

/-- 'laws.FnNRGBA64Opaque': WHATEVER THE INPUT: true; the input reads as it did. -/
def fnNRGBA64OpaqueSpec : ChangeSpec := { name := "fnNRGBA64Opaque", fn := fun _ => fun
  | [d] => { results := [.lit (.bool true)], args := [d] }
  | _ => none }
def fnNRGBA64OpaqueRow : OpenClaim := { program := "ythpgfmgjfadjhaa", sum := "40d5f54ad3cb216b729592e549334df60fa610853bd57a847f7a764f2d402d8a", func := "lib-sheetfilm/laws.FnNRGBA64Opaque", spec := "fnNRGBA64Opaque", apart := false }
def FnNRGBA64OpaqueSaid : Prop := fnNRGBA64OpaqueRow.holds Try.pinned (OpenSpec.ofChange fnNRGBA64OpaqueSpec)

/-- ITS FALSE NEIGHBOUR: 'it returns false'. Refute it at one input. -/
def fnNRGBA64OpaqueWrong : ChangeSpec := { name := "fnNRGBA64Opaque", fn := fun _ => fun
  | [d] => { results := [.lit (.bool false)], args := [d] }
  | _ => none }
def FnNRGBA64OpaqueWrongFalsely : Prop := fnNRGBA64OpaqueRow.holds Try.pinned (OpenSpec.ofChange fnNRGBA64OpaqueWrong)

/-- 'laws.FnNRGBA64SetOutside': WHATEVER THE INPUT: true; the input reads as it did. -/
def fnNRGBA64SetOutsideSpec : ChangeSpec := { name := "fnNRGBA64SetOutside", fn := fun _ => fun
  | [d1, d2, d3, d4] => { results := [.lit (.bool true)], args := [d1, d2, d3, d4] }
  | _ => none }
def fnNRGBA64SetOutsideRow : OpenClaim := { program := "ythpgfmgjfadjhaa", sum := "40d5f54ad3cb216b729592e549334df60fa610853bd57a847f7a764f2d402d8a", func := "lib-sheetfilm/laws.FnNRGBA64SetOutside", spec := "fnNRGBA64SetOutside", apart := false }
def FnNRGBA64SetOutsideSaid : Prop := fnNRGBA64SetOutsideRow.holds Try.pinned (OpenSpec.ofChange fnNRGBA64SetOutsideSpec)

/-- ITS FALSE NEIGHBOUR: 'it returns false'. Refute it at one input. -/
def fnNRGBA64SetOutsideWrong : ChangeSpec := { name := "fnNRGBA64SetOutside", fn := fun _ => fun
  | [d1, d2, d3, d4] => { results := [.lit (.bool false)], args := [d1, d2, d3, d4] }
  | _ => none }
def FnNRGBA64SetOutsideWrongFalsely : Prop := fnNRGBA64SetOutsideRow.holds Try.pinned (OpenSpec.ofChange fnNRGBA64SetOutsideWrong)

/-- 'laws.FnNRGBA64New': WHATEVER THE INPUT: true; the input reads as it did. -/
def fnNRGBA64NewSpec : ChangeSpec := { name := "fnNRGBA64New", fn := fun _ => fun
  | [d] => { results := [.lit (.bool true)], args := [d] }
  | _ => none }
def fnNRGBA64NewRow : OpenClaim := { program := "ythpgfmgjfadjhaa", sum := "40d5f54ad3cb216b729592e549334df60fa610853bd57a847f7a764f2d402d8a", func := "lib-sheetfilm/laws.FnNRGBA64New", spec := "fnNRGBA64New", apart := false }
def FnNRGBA64NewSaid : Prop := fnNRGBA64NewRow.holds Try.pinned (OpenSpec.ofChange fnNRGBA64NewSpec)

/-- ITS FALSE NEIGHBOUR: 'it returns false'. Refute it at one input. -/
def fnNRGBA64NewWrong : ChangeSpec := { name := "fnNRGBA64New", fn := fun _ => fun
  | [d] => { results := [.lit (.bool false)], args := [d] }
  | _ => none }
def FnNRGBA64NewWrongFalsely : Prop := fnNRGBA64NewRow.holds Try.pinned (OpenSpec.ofChange fnNRGBA64NewWrong)

/-- 'laws.FnNRGBA64Set': WHATEVER THE INPUT: true; the input reads as it did. -/
def fnNRGBA64SetSpec : ChangeSpec := { name := "fnNRGBA64Set", fn := fun _ => fun
  | [d1, d2, d3, d4] => { results := [.lit (.bool true)], args := [d1, d2, d3, d4] }
  | _ => none }
def fnNRGBA64SetRow : OpenClaim := { program := "ythpgfmgjfadjhaa", sum := "40d5f54ad3cb216b729592e549334df60fa610853bd57a847f7a764f2d402d8a", func := "lib-sheetfilm/laws.FnNRGBA64Set", spec := "fnNRGBA64Set", apart := false }
def FnNRGBA64SetSaid : Prop := fnNRGBA64SetRow.holds Try.pinned (OpenSpec.ofChange fnNRGBA64SetSpec)

/-- ITS FALSE NEIGHBOUR: 'it returns false'. Refute it at one input. -/
def fnNRGBA64SetWrong : ChangeSpec := { name := "fnNRGBA64Set", fn := fun _ => fun
  | [d1, d2, d3, d4] => { results := [.lit (.bool false)], args := [d1, d2, d3, d4] }
  | _ => none }
def FnNRGBA64SetWrongFalsely : Prop := fnNRGBA64SetRow.holds Try.pinned (OpenSpec.ofChange fnNRGBA64SetWrong)

/-- 'laws.FnNRGBA64NewBlank': WHATEVER THE INPUT: true; the input reads as it did. -/
def fnNRGBA64NewBlankSpec : ChangeSpec := { name := "fnNRGBA64NewBlank", fn := fun _ => fun
  | [d] => { results := [.lit (.bool true)], args := [d] }
  | _ => none }
def fnNRGBA64NewBlankRow : OpenClaim := { program := "ythpgfmgjfadjhaa", sum := "40d5f54ad3cb216b729592e549334df60fa610853bd57a847f7a764f2d402d8a", func := "lib-sheetfilm/laws.FnNRGBA64NewBlank", spec := "fnNRGBA64NewBlank", unfollowed := true, recurses := true, apart := false }
def FnNRGBA64NewBlankSaid : Prop := fnNRGBA64NewBlankRow.holds Try.pinned (OpenSpec.ofChange fnNRGBA64NewBlankSpec)

/-- ITS FALSE NEIGHBOUR: 'it returns false'. Refute it at one input. -/
def fnNRGBA64NewBlankWrong : ChangeSpec := { name := "fnNRGBA64NewBlank", fn := fun _ => fun
  | [d] => { results := [.lit (.bool false)], args := [d] }
  | _ => none }
def FnNRGBA64NewBlankWrongFalsely : Prop := fnNRGBA64NewBlankRow.holds Try.pinned (OpenSpec.ofChange fnNRGBA64NewBlankWrong)

/-- 'laws.FnNRGBA64Sub': WHATEVER THE INPUT: true; the input reads as it did. -/
def fnNRGBA64SubSpec : ChangeSpec := { name := "fnNRGBA64Sub", fn := fun _ => fun
  | [d1, d2, d3, d4] => { results := [.lit (.bool true)], args := [d1, d2, d3, d4] }
  | _ => none }
def fnNRGBA64SubRow : OpenClaim := { program := "ythpgfmgjfadjhaa", sum := "40d5f54ad3cb216b729592e549334df60fa610853bd57a847f7a764f2d402d8a", func := "lib-sheetfilm/laws.FnNRGBA64Sub", spec := "fnNRGBA64Sub", apart := false }
def FnNRGBA64SubSaid : Prop := fnNRGBA64SubRow.holds Try.pinned (OpenSpec.ofChange fnNRGBA64SubSpec)

/-- ITS FALSE NEIGHBOUR: 'it returns false'. Refute it at one input. -/
def fnNRGBA64SubWrong : ChangeSpec := { name := "fnNRGBA64Sub", fn := fun _ => fun
  | [d1, d2, d3, d4] => { results := [.lit (.bool false)], args := [d1, d2, d3, d4] }
  | _ => none }
def FnNRGBA64SubWrongFalsely : Prop := fnNRGBA64SubRow.holds Try.pinned (OpenSpec.ofChange fnNRGBA64SubWrong)

/-- 'laws.FnNRGBA64SubSub': WHATEVER THE INPUT: true; the input reads as it did. -/
def fnNRGBA64SubSubSpec : ChangeSpec := { name := "fnNRGBA64SubSub", fn := fun _ => fun
  | [d1, d2, d3, d4, d5] => { results := [.lit (.bool true)], args := [d1, d2, d3, d4, d5] }
  | _ => none }
def fnNRGBA64SubSubRow : OpenClaim := { program := "ythpgfmgjfadjhaa", sum := "40d5f54ad3cb216b729592e549334df60fa610853bd57a847f7a764f2d402d8a", func := "lib-sheetfilm/laws.FnNRGBA64SubSub", spec := "fnNRGBA64SubSub", apart := false }
def FnNRGBA64SubSubSaid : Prop := fnNRGBA64SubSubRow.holds Try.pinned (OpenSpec.ofChange fnNRGBA64SubSubSpec)

/-- ITS FALSE NEIGHBOUR: 'it returns false'. Refute it at one input. -/
def fnNRGBA64SubSubWrong : ChangeSpec := { name := "fnNRGBA64SubSub", fn := fun _ => fun
  | [d1, d2, d3, d4, d5] => { results := [.lit (.bool false)], args := [d1, d2, d3, d4, d5] }
  | _ => none }
def FnNRGBA64SubSubWrongFalsely : Prop := fnNRGBA64SubSubRow.holds Try.pinned (OpenSpec.ofChange fnNRGBA64SubSubWrong)

/-- 'laws.FnNRGBA64Run': WHATEVER THE INPUT: true; the input reads as it did. -/
def fnNRGBA64RunSpec : ChangeSpec := { name := "fnNRGBA64Run", fn := fun _ => fun
  | [d1, d2] => { results := [.lit (.bool true)], args := [d1, d2] }
  | _ => none }
def fnNRGBA64RunRow : OpenClaim := { program := "ythpgfmgjfadjhaa", sum := "40d5f54ad3cb216b729592e549334df60fa610853bd57a847f7a764f2d402d8a", func := "lib-sheetfilm/laws.FnNRGBA64Run", spec := "fnNRGBA64Run", apart := false }
def FnNRGBA64RunSaid : Prop := fnNRGBA64RunRow.holds Try.pinned (OpenSpec.ofChange fnNRGBA64RunSpec)

/-- ITS FALSE NEIGHBOUR: 'it returns false'. Refute it at one input. -/
def fnNRGBA64RunWrong : ChangeSpec := { name := "fnNRGBA64Run", fn := fun _ => fun
  | [d1, d2] => { results := [.lit (.bool false)], args := [d1, d2] }
  | _ => none }
def FnNRGBA64RunWrongFalsely : Prop := fnNRGBA64RunRow.holds Try.pinned (OpenSpec.ofChange fnNRGBA64RunWrong)

/-- 'laws.FnNRGBA64AtOutside': WHATEVER THE INPUT: true; the input reads as it did. -/
def fnNRGBA64AtOutsideSpec : ChangeSpec := { name := "fnNRGBA64AtOutside", fn := fun _ => fun
  | [d1, d2, d3] => { results := [.lit (.bool true)], args := [d1, d2, d3] }
  | _ => none }
def fnNRGBA64AtOutsideRow : OpenClaim := { program := "ythpgfmgjfadjhaa", sum := "40d5f54ad3cb216b729592e549334df60fa610853bd57a847f7a764f2d402d8a", func := "lib-sheetfilm/laws.FnNRGBA64AtOutside", spec := "fnNRGBA64AtOutside", inPlace := ["internal/bytealg.MakeNoZero"], apart := false }
def FnNRGBA64AtOutsideSaid : Prop := fnNRGBA64AtOutsideRow.holds Try.pinned (OpenSpec.ofChange fnNRGBA64AtOutsideSpec)

/-- ITS FALSE NEIGHBOUR: 'it returns false'. Refute it at one input. -/
def fnNRGBA64AtOutsideWrong : ChangeSpec := { name := "fnNRGBA64AtOutside", fn := fun _ => fun
  | [d1, d2, d3] => { results := [.lit (.bool false)], args := [d1, d2, d3] }
  | _ => none }
def FnNRGBA64AtOutsideWrongFalsely : Prop := fnNRGBA64AtOutsideRow.holds Try.pinned (OpenSpec.ofChange fnNRGBA64AtOutsideWrong)

/-- 'laws.FnNRGBA64SubShares': WHATEVER THE INPUT: true; the input reads as it did. -/
def fnNRGBA64SubSharesSpec : ChangeSpec := { name := "fnNRGBA64SubShares", fn := fun _ => fun
  | [d1, d2, d3, d4, d5] => { results := [.lit (.bool true)], args := [d1, d2, d3, d4, d5] }
  | _ => none }
def fnNRGBA64SubSharesRow : OpenClaim := { program := "ythpgfmgjfadjhaa", sum := "40d5f54ad3cb216b729592e549334df60fa610853bd57a847f7a764f2d402d8a", func := "lib-sheetfilm/laws.FnNRGBA64SubShares", spec := "fnNRGBA64SubShares", apart := false }
def FnNRGBA64SubSharesSaid : Prop := fnNRGBA64SubSharesRow.holds Try.pinned (OpenSpec.ofChange fnNRGBA64SubSharesSpec)

/-- ITS FALSE NEIGHBOUR: 'it returns false'. Refute it at one input. -/
def fnNRGBA64SubSharesWrong : ChangeSpec := { name := "fnNRGBA64SubShares", fn := fun _ => fun
  | [d1, d2, d3, d4, d5] => { results := [.lit (.bool false)], args := [d1, d2, d3, d4, d5] }
  | _ => none }
def FnNRGBA64SubSharesWrongFalsely : Prop := fnNRGBA64SubSharesRow.holds Try.pinned (OpenSpec.ofChange fnNRGBA64SubSharesWrong)

/- THE SECOND FORM. 'bulk': how many values and letters a reading holds, each counted each time it is reached (what is shared counts as often as it is met; a slice's spare places count too). A statement '..UptoSaid' is the law's where the arguments, and the package variables that the reading takes, are together of bulk at most 1048576: NARROWER than '..Said'. Prove '..Said' where nothing that the law and all that it calls make is longer than what came in: it says more and counts as full. Else prove '..UptoSaid'. A law counts once. -/
mutual
def uptoBulk {H : Type} : DataW H → Nat
  | .lit (.string bytes) => bytes.length + 1
  | .lit _ => 1
  | .nil => 1
  | .ptr d => uptoBulk d + 1
  | .slice elems spare => uptoBulkAll elems + uptoBulkAll spare + 1
  | .agg parts => uptoBulkAll parts + 1
  | .iface _ d => uptoBulk d + 1
  | .map entries => uptoBulkEntries entries + 1
  | .held _ => 1
def uptoBulkAll {H : Type} : List (DataW H) → Nat
  | [] => 0
  | d :: r => uptoBulk d + uptoBulkAll r
def uptoBulkEntries {H : Type} : List (Lit × DataW H) → Nat
  | [] => 0
  | x :: r => uptoBulkEntry x + uptoBulkEntries r
def uptoBulkEntry {H : Type} : Lit × DataW H → Nat
  | (.string bytes, d) => bytes.length + uptoBulk d + 1
  | (_, d) => uptoBulk d + 1
 end
def uptoSmall : (H : Type) → List (DataW H) → Bool := fun _ ds => decide (uptoBulkAll ds ≤ 1048576)
def OpenSpec.upto (s : _root_.Go.ChangeSpec) : _root_.Go.OpenSpec := { _root_.Go.OpenSpec.ofChange s with cond := some uptoSmall }

/-- 'laws.FnNRGBA64Offset', WHERE WHAT IT READS IS OF BULK AT MOST 1048576: true; the input reads as it did. -/
def fnNRGBA64OffsetUptoRow : OpenClaim := { program := "ythpgfmgjfadjhaa", sum := "40d5f54ad3cb216b729592e549334df60fa610853bd57a847f7a764f2d402d8a", func := "lib-sheetfilm/laws.FnNRGBA64Offset", spec := "fnNRGBA64Offset", apart := false, narrowed := true }
def FnNRGBA64OffsetUptoSaid : Prop := fnNRGBA64OffsetUptoRow.holds Try.pinned (OpenSpec.upto fnNRGBA64OffsetSpec)

/-- 'laws.FnNRGBA64OffsetAnywhere', WHERE WHAT IT READS IS OF BULK AT MOST 1048576: true; the input reads as it did. -/
def fnNRGBA64OffsetAnywhereUptoRow : OpenClaim := { program := "ythpgfmgjfadjhaa", sum := "40d5f54ad3cb216b729592e549334df60fa610853bd57a847f7a764f2d402d8a", func := "lib-sheetfilm/laws.FnNRGBA64OffsetAnywhere", spec := "fnNRGBA64OffsetAnywhere", apart := false, narrowed := true }
def FnNRGBA64OffsetAnywhereUptoSaid : Prop := fnNRGBA64OffsetAnywhereUptoRow.holds Try.pinned (OpenSpec.upto fnNRGBA64OffsetAnywhereSpec)

/-- 'laws.FnNRGBA64At', WHERE WHAT IT READS IS OF BULK AT MOST 1048576: true; the input reads as it did. -/
def fnNRGBA64AtUptoRow : OpenClaim := { program := "ythpgfmgjfadjhaa", sum := "40d5f54ad3cb216b729592e549334df60fa610853bd57a847f7a764f2d402d8a", func := "lib-sheetfilm/laws.FnNRGBA64At", spec := "fnNRGBA64At", apart := false, narrowed := true }
def FnNRGBA64AtUptoSaid : Prop := fnNRGBA64AtUptoRow.holds Try.pinned (OpenSpec.upto fnNRGBA64AtSpec)

/-- 'laws.FnNRGBA64Opaque', WHERE WHAT IT READS IS OF BULK AT MOST 1048576: true; the input reads as it did. -/
def fnNRGBA64OpaqueUptoRow : OpenClaim := { program := "ythpgfmgjfadjhaa", sum := "40d5f54ad3cb216b729592e549334df60fa610853bd57a847f7a764f2d402d8a", func := "lib-sheetfilm/laws.FnNRGBA64Opaque", spec := "fnNRGBA64Opaque", apart := false, narrowed := true }
def FnNRGBA64OpaqueUptoSaid : Prop := fnNRGBA64OpaqueUptoRow.holds Try.pinned (OpenSpec.upto fnNRGBA64OpaqueSpec)

/-- 'laws.FnNRGBA64SetOutside', WHERE WHAT IT READS IS OF BULK AT MOST 1048576: true; the input reads as it did. -/
def fnNRGBA64SetOutsideUptoRow : OpenClaim := { program := "ythpgfmgjfadjhaa", sum := "40d5f54ad3cb216b729592e549334df60fa610853bd57a847f7a764f2d402d8a", func := "lib-sheetfilm/laws.FnNRGBA64SetOutside", spec := "fnNRGBA64SetOutside", apart := false, narrowed := true }
def FnNRGBA64SetOutsideUptoSaid : Prop := fnNRGBA64SetOutsideUptoRow.holds Try.pinned (OpenSpec.upto fnNRGBA64SetOutsideSpec)

/-- 'laws.FnNRGBA64New', WHERE WHAT IT READS IS OF BULK AT MOST 1048576: true; the input reads as it did. -/
def fnNRGBA64NewUptoRow : OpenClaim := { program := "ythpgfmgjfadjhaa", sum := "40d5f54ad3cb216b729592e549334df60fa610853bd57a847f7a764f2d402d8a", func := "lib-sheetfilm/laws.FnNRGBA64New", spec := "fnNRGBA64New", apart := false, narrowed := true }
def FnNRGBA64NewUptoSaid : Prop := fnNRGBA64NewUptoRow.holds Try.pinned (OpenSpec.upto fnNRGBA64NewSpec)

/-- 'laws.FnNRGBA64Set', WHERE WHAT IT READS IS OF BULK AT MOST 1048576: true; the input reads as it did. -/
def fnNRGBA64SetUptoRow : OpenClaim := { program := "ythpgfmgjfadjhaa", sum := "40d5f54ad3cb216b729592e549334df60fa610853bd57a847f7a764f2d402d8a", func := "lib-sheetfilm/laws.FnNRGBA64Set", spec := "fnNRGBA64Set", apart := false, narrowed := true }
def FnNRGBA64SetUptoSaid : Prop := fnNRGBA64SetUptoRow.holds Try.pinned (OpenSpec.upto fnNRGBA64SetSpec)

/-- 'laws.FnNRGBA64NewBlank', WHERE WHAT IT READS IS OF BULK AT MOST 1048576: true; the input reads as it did. -/
def fnNRGBA64NewBlankUptoRow : OpenClaim := { program := "ythpgfmgjfadjhaa", sum := "40d5f54ad3cb216b729592e549334df60fa610853bd57a847f7a764f2d402d8a", func := "lib-sheetfilm/laws.FnNRGBA64NewBlank", spec := "fnNRGBA64NewBlank", unfollowed := true, recurses := true, apart := false, narrowed := true }
def FnNRGBA64NewBlankUptoSaid : Prop := fnNRGBA64NewBlankUptoRow.holds Try.pinned (OpenSpec.upto fnNRGBA64NewBlankSpec)

/-- 'laws.FnNRGBA64Sub', WHERE WHAT IT READS IS OF BULK AT MOST 1048576: true; the input reads as it did. -/
def fnNRGBA64SubUptoRow : OpenClaim := { program := "ythpgfmgjfadjhaa", sum := "40d5f54ad3cb216b729592e549334df60fa610853bd57a847f7a764f2d402d8a", func := "lib-sheetfilm/laws.FnNRGBA64Sub", spec := "fnNRGBA64Sub", apart := false, narrowed := true }
def FnNRGBA64SubUptoSaid : Prop := fnNRGBA64SubUptoRow.holds Try.pinned (OpenSpec.upto fnNRGBA64SubSpec)

/-- 'laws.FnNRGBA64SubSub', WHERE WHAT IT READS IS OF BULK AT MOST 1048576: true; the input reads as it did. -/
def fnNRGBA64SubSubUptoRow : OpenClaim := { program := "ythpgfmgjfadjhaa", sum := "40d5f54ad3cb216b729592e549334df60fa610853bd57a847f7a764f2d402d8a", func := "lib-sheetfilm/laws.FnNRGBA64SubSub", spec := "fnNRGBA64SubSub", apart := false, narrowed := true }
def FnNRGBA64SubSubUptoSaid : Prop := fnNRGBA64SubSubUptoRow.holds Try.pinned (OpenSpec.upto fnNRGBA64SubSubSpec)

/-- 'laws.FnNRGBA64Run', WHERE WHAT IT READS IS OF BULK AT MOST 1048576: true; the input reads as it did. -/
def fnNRGBA64RunUptoRow : OpenClaim := { program := "ythpgfmgjfadjhaa", sum := "40d5f54ad3cb216b729592e549334df60fa610853bd57a847f7a764f2d402d8a", func := "lib-sheetfilm/laws.FnNRGBA64Run", spec := "fnNRGBA64Run", apart := false, narrowed := true }
def FnNRGBA64RunUptoSaid : Prop := fnNRGBA64RunUptoRow.holds Try.pinned (OpenSpec.upto fnNRGBA64RunSpec)

/-- 'laws.FnNRGBA64AtOutside', WHERE WHAT IT READS IS OF BULK AT MOST 1048576: true; the input reads as it did. -/
def fnNRGBA64AtOutsideUptoRow : OpenClaim := { program := "ythpgfmgjfadjhaa", sum := "40d5f54ad3cb216b729592e549334df60fa610853bd57a847f7a764f2d402d8a", func := "lib-sheetfilm/laws.FnNRGBA64AtOutside", spec := "fnNRGBA64AtOutside", inPlace := ["internal/bytealg.MakeNoZero"], apart := false, narrowed := true }
def FnNRGBA64AtOutsideUptoSaid : Prop := fnNRGBA64AtOutsideUptoRow.holds Try.pinned (OpenSpec.upto fnNRGBA64AtOutsideSpec)

/-- 'laws.FnNRGBA64SubShares', WHERE WHAT IT READS IS OF BULK AT MOST 1048576: true; the input reads as it did. -/
def fnNRGBA64SubSharesUptoRow : OpenClaim := { program := "ythpgfmgjfadjhaa", sum := "40d5f54ad3cb216b729592e549334df60fa610853bd57a847f7a764f2d402d8a", func := "lib-sheetfilm/laws.FnNRGBA64SubShares", spec := "fnNRGBA64SubShares", apart := false, narrowed := true }
def FnNRGBA64SubSharesUptoSaid : Prop := fnNRGBA64SubSharesUptoRow.holds Try.pinned (OpenSpec.upto fnNRGBA64SubSharesSpec)

end Rows
end Go.Proofs.Ythpgfmgjfadjhaa
