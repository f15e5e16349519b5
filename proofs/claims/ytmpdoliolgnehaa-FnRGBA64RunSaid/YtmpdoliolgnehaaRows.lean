/-
  No cell of these rows narrows 'for every input' (looked for: loops, veiled, ifaces, maps, wideKeys, modest, calm, conditions, laid).
  DERIVED. THE GIVEN ROWS OF THIS SEAT. 13 by the template 'for every input the law returns true; each argument reads behind the call as it read before'; 0 by the template 'total and deterministic' (their statements: YtmpdoliolgnehaaTotals.lean).
  GIVEN WITH THE SEED: the statements are not yours to turn. If you find one false, say at which input.
  Laid BY PROGRAM, IN A SANDBOX (cutbox-rows.mjs): the forced cells as the released guide's own fill.sh prints them over the translation 17f815edc36fa063… (all of the seat's roots in one cut). By AI agents, Wed Nov 11 2026. No macro, syntax, notation, axiom, sorry.
-/
import Derived.Test.YtmpdoliolgnehaaChecked
import GoSem.Claim
import GoSem.ClaimJoined
import GoSem.ClaimMapViews
import Derived.JoinedTies
import Derived.KernelRfl
namespace Go.Proofs.Ytmpdoliolgnehaa
/- THE CELL 'sum', in the pinned program and in every row, IS THE sha256 OF THE DUMP (.gsa) THAT YtmpdoliolgnehaaProg.lean LOADS. Nothing in Lean hashes anything: it is a label: what it is worth is what the hold of that sum in a sandbox is worth. -/
noncomputable def Try.pinned : Pinned := { name := "ytmpdoliolgnehaa", sum := "17f815edc36fa06391363d616da414a6a79be93e87381a0002378e46b5ec182f", checked := Try.checked }
namespace Rows
def none {H : Type} : Left H := { results := [], args := [] }

/-- 'laws.FnRGBA64Offset': WHATEVER THE INPUT: true; the input reads as it did. -/
def fnRGBA64OffsetSpec : ChangeSpec := { name := "fnRGBA64Offset", fn := fun _ => fun
  | [d1, d2, d3] => { results := [.lit (.bool true)], args := [d1, d2, d3] }
  | _ => none }
def fnRGBA64OffsetRow : OpenClaim := { program := "ytmpdoliolgnehaa", sum := "17f815edc36fa06391363d616da414a6a79be93e87381a0002378e46b5ec182f", func := "lib-sheetfilm/laws.FnRGBA64Offset", spec := "fnRGBA64Offset", apart := false }
def FnRGBA64OffsetSaid : Prop := fnRGBA64OffsetRow.holds Try.pinned (OpenSpec.ofChange fnRGBA64OffsetSpec)

/-- ITS FALSE NEIGHBOUR: 'it returns false'. Refute it at one input. -/
def fnRGBA64OffsetWrong : ChangeSpec := { name := "fnRGBA64Offset", fn := fun _ => fun
  | [d1, d2, d3] => { results := [.lit (.bool false)], args := [d1, d2, d3] }
  | _ => none }
def FnRGBA64OffsetWrongFalsely : Prop := fnRGBA64OffsetRow.holds Try.pinned (OpenSpec.ofChange fnRGBA64OffsetWrong)

/-- 'laws.FnRGBA64OffsetAnywhere': WHATEVER THE INPUT: true; the input reads as it did. -/
def fnRGBA64OffsetAnywhereSpec : ChangeSpec := { name := "fnRGBA64OffsetAnywhere", fn := fun _ => fun
  | [d1, d2, d3] => { results := [.lit (.bool true)], args := [d1, d2, d3] }
  | _ => none }
def fnRGBA64OffsetAnywhereRow : OpenClaim := { program := "ytmpdoliolgnehaa", sum := "17f815edc36fa06391363d616da414a6a79be93e87381a0002378e46b5ec182f", func := "lib-sheetfilm/laws.FnRGBA64OffsetAnywhere", spec := "fnRGBA64OffsetAnywhere", apart := false }
def FnRGBA64OffsetAnywhereSaid : Prop := fnRGBA64OffsetAnywhereRow.holds Try.pinned (OpenSpec.ofChange fnRGBA64OffsetAnywhereSpec)

/-- ITS FALSE NEIGHBOUR: 'it returns false'. Refute it at one input. -/
def fnRGBA64OffsetAnywhereWrong : ChangeSpec := { name := "fnRGBA64OffsetAnywhere", fn := fun _ => fun
  | [d1, d2, d3] => { results := [.lit (.bool false)], args := [d1, d2, d3] }
  | _ => none }
def FnRGBA64OffsetAnywhereWrongFalsely : Prop := fnRGBA64OffsetAnywhereRow.holds Try.pinned (OpenSpec.ofChange fnRGBA64OffsetAnywhereWrong)

/-- 'laws.FnRGBA64At': WHATEVER THE INPUT: true; the input reads as it did. -/
def fnRGBA64AtSpec : ChangeSpec := { name := "fnRGBA64At", fn := fun _ => fun
  | [d1, d2, d3] => { results := [.lit (.bool true)], args := [d1, d2, d3] }
  | _ => none }
def fnRGBA64AtRow : OpenClaim := { program := "ytmpdoliolgnehaa", sum := "17f815edc36fa06391363d616da414a6a79be93e87381a0002378e46b5ec182f", func := "lib-sheetfilm/laws.FnRGBA64At", spec := "fnRGBA64At", apart := false }
def FnRGBA64AtSaid : Prop := fnRGBA64AtRow.holds Try.pinned (OpenSpec.ofChange fnRGBA64AtSpec)

/-- ITS FALSE NEIGHBOUR: 'it returns false'. Refute it at one input. -/
def fnRGBA64AtWrong : ChangeSpec := { name := "fnRGBA64At", fn := fun _ => fun
  | [d1, d2, d3] => { results := [.lit (.bool false)], args := [d1, d2, d3] }
  | _ => none }
def FnRGBA64AtWrongFalsely : Prop := fnRGBA64AtRow.holds Try.pinned (OpenSpec.ofChange fnRGBA64AtWrong)

/-- 'laws.FnRGBA64Opaque': WHATEVER THE INPUT: true; the input reads as it did. -/
def fnRGBA64OpaqueSpec : ChangeSpec := { name := "fnRGBA64Opaque", fn := fun _ => fun
  | [d] => { results := [.lit (.bool true)], args := [d] }
  | _ => none }
def fnRGBA64OpaqueRow : OpenClaim := { program := "ytmpdoliolgnehaa", sum := "17f815edc36fa06391363d616da414a6a79be93e87381a0002378e46b5ec182f", func := "lib-sheetfilm/laws.FnRGBA64Opaque", spec := "fnRGBA64Opaque", apart := false }
def FnRGBA64OpaqueSaid : Prop := fnRGBA64OpaqueRow.holds Try.pinned (OpenSpec.ofChange fnRGBA64OpaqueSpec)

/-- ITS FALSE NEIGHBOUR: 'it returns false'. Refute it at one input. -/
def fnRGBA64OpaqueWrong : ChangeSpec := { name := "fnRGBA64Opaque", fn := fun _ => fun
  | [d] => { results := [.lit (.bool false)], args := [d] }
  | _ => none }
def FnRGBA64OpaqueWrongFalsely : Prop := fnRGBA64OpaqueRow.holds Try.pinned (OpenSpec.ofChange fnRGBA64OpaqueWrong)

/-- 'laws.FnRGBA64SetOutside': WHATEVER THE INPUT: true; the input reads as it did. -/
def fnRGBA64SetOutsideSpec : ChangeSpec := { name := "fnRGBA64SetOutside", fn := fun _ => fun
  | [d1, d2, d3, d4] => { results := [.lit (.bool true)], args := [d1, d2, d3, d4] }
  | _ => none }
def fnRGBA64SetOutsideRow : OpenClaim := { program := "ytmpdoliolgnehaa", sum := "17f815edc36fa06391363d616da414a6a79be93e87381a0002378e46b5ec182f", func := "lib-sheetfilm/laws.FnRGBA64SetOutside", spec := "fnRGBA64SetOutside", apart := false }
def FnRGBA64SetOutsideSaid : Prop := fnRGBA64SetOutsideRow.holds Try.pinned (OpenSpec.ofChange fnRGBA64SetOutsideSpec)

/-- ITS FALSE NEIGHBOUR: 'it returns false'. Refute it at one input. -/
def fnRGBA64SetOutsideWrong : ChangeSpec := { name := "fnRGBA64SetOutside", fn := fun _ => fun
  | [d1, d2, d3, d4] => { results := [.lit (.bool false)], args := [d1, d2, d3, d4] }
  | _ => none }
def FnRGBA64SetOutsideWrongFalsely : Prop := fnRGBA64SetOutsideRow.holds Try.pinned (OpenSpec.ofChange fnRGBA64SetOutsideWrong)

/-- 'laws.FnRGBA64New': WHATEVER THE INPUT: true; the input reads as it did. -/
def fnRGBA64NewSpec : ChangeSpec := { name := "fnRGBA64New", fn := fun _ => fun
  | [d] => { results := [.lit (.bool true)], args := [d] }
  | _ => none }
def fnRGBA64NewRow : OpenClaim := { program := "ytmpdoliolgnehaa", sum := "17f815edc36fa06391363d616da414a6a79be93e87381a0002378e46b5ec182f", func := "lib-sheetfilm/laws.FnRGBA64New", spec := "fnRGBA64New", apart := false }
def FnRGBA64NewSaid : Prop := fnRGBA64NewRow.holds Try.pinned (OpenSpec.ofChange fnRGBA64NewSpec)

/-- ITS FALSE NEIGHBOUR: 'it returns false'. Refute it at one input. -/
def fnRGBA64NewWrong : ChangeSpec := { name := "fnRGBA64New", fn := fun _ => fun
  | [d] => { results := [.lit (.bool false)], args := [d] }
  | _ => none }
def FnRGBA64NewWrongFalsely : Prop := fnRGBA64NewRow.holds Try.pinned (OpenSpec.ofChange fnRGBA64NewWrong)

/-- 'laws.FnRGBA64Set': WHATEVER THE INPUT: true; the input reads as it did. -/
def fnRGBA64SetSpec : ChangeSpec := { name := "fnRGBA64Set", fn := fun _ => fun
  | [d1, d2, d3, d4] => { results := [.lit (.bool true)], args := [d1, d2, d3, d4] }
  | _ => none }
def fnRGBA64SetRow : OpenClaim := { program := "ytmpdoliolgnehaa", sum := "17f815edc36fa06391363d616da414a6a79be93e87381a0002378e46b5ec182f", func := "lib-sheetfilm/laws.FnRGBA64Set", spec := "fnRGBA64Set", apart := false }
def FnRGBA64SetSaid : Prop := fnRGBA64SetRow.holds Try.pinned (OpenSpec.ofChange fnRGBA64SetSpec)

/-- ITS FALSE NEIGHBOUR: 'it returns false'. Refute it at one input. -/
def fnRGBA64SetWrong : ChangeSpec := { name := "fnRGBA64Set", fn := fun _ => fun
  | [d1, d2, d3, d4] => { results := [.lit (.bool false)], args := [d1, d2, d3, d4] }
  | _ => none }
def FnRGBA64SetWrongFalsely : Prop := fnRGBA64SetRow.holds Try.pinned (OpenSpec.ofChange fnRGBA64SetWrong)

/-- 'laws.FnRGBA64NewBlank': WHATEVER THE INPUT: true; the input reads as it did. -/
def fnRGBA64NewBlankSpec : ChangeSpec := { name := "fnRGBA64NewBlank", fn := fun _ => fun
  | [d] => { results := [.lit (.bool true)], args := [d] }
  | _ => none }
def fnRGBA64NewBlankRow : OpenClaim := { program := "ytmpdoliolgnehaa", sum := "17f815edc36fa06391363d616da414a6a79be93e87381a0002378e46b5ec182f", func := "lib-sheetfilm/laws.FnRGBA64NewBlank", spec := "fnRGBA64NewBlank", unfollowed := true, recurses := true, apart := false }
def FnRGBA64NewBlankSaid : Prop := fnRGBA64NewBlankRow.holds Try.pinned (OpenSpec.ofChange fnRGBA64NewBlankSpec)

/-- ITS FALSE NEIGHBOUR: 'it returns false'. Refute it at one input. -/
def fnRGBA64NewBlankWrong : ChangeSpec := { name := "fnRGBA64NewBlank", fn := fun _ => fun
  | [d] => { results := [.lit (.bool false)], args := [d] }
  | _ => none }
def FnRGBA64NewBlankWrongFalsely : Prop := fnRGBA64NewBlankRow.holds Try.pinned (OpenSpec.ofChange fnRGBA64NewBlankWrong)

/-- 'laws.FnRGBA64Sub': WHATEVER THE INPUT: true; the input reads as it did. -/
def fnRGBA64SubSpec : ChangeSpec := { name := "fnRGBA64Sub", fn := fun _ => fun
  | [d1, d2, d3, d4] => { results := [.lit (.bool true)], args := [d1, d2, d3, d4] }
  | _ => none }
def fnRGBA64SubRow : OpenClaim := { program := "ytmpdoliolgnehaa", sum := "17f815edc36fa06391363d616da414a6a79be93e87381a0002378e46b5ec182f", func := "lib-sheetfilm/laws.FnRGBA64Sub", spec := "fnRGBA64Sub", apart := false }
def FnRGBA64SubSaid : Prop := fnRGBA64SubRow.holds Try.pinned (OpenSpec.ofChange fnRGBA64SubSpec)

/-- ITS FALSE NEIGHBOUR: 'it returns false'. Refute it at one input. -/
def fnRGBA64SubWrong : ChangeSpec := { name := "fnRGBA64Sub", fn := fun _ => fun
  | [d1, d2, d3, d4] => { results := [.lit (.bool false)], args := [d1, d2, d3, d4] }
  | _ => none }
def FnRGBA64SubWrongFalsely : Prop := fnRGBA64SubRow.holds Try.pinned (OpenSpec.ofChange fnRGBA64SubWrong)

/-- 'laws.FnRGBA64SubSub': WHATEVER THE INPUT: true; the input reads as it did. -/
def fnRGBA64SubSubSpec : ChangeSpec := { name := "fnRGBA64SubSub", fn := fun _ => fun
  | [d1, d2, d3, d4, d5] => { results := [.lit (.bool true)], args := [d1, d2, d3, d4, d5] }
  | _ => none }
def fnRGBA64SubSubRow : OpenClaim := { program := "ytmpdoliolgnehaa", sum := "17f815edc36fa06391363d616da414a6a79be93e87381a0002378e46b5ec182f", func := "lib-sheetfilm/laws.FnRGBA64SubSub", spec := "fnRGBA64SubSub", apart := false }
def FnRGBA64SubSubSaid : Prop := fnRGBA64SubSubRow.holds Try.pinned (OpenSpec.ofChange fnRGBA64SubSubSpec)

/-- ITS FALSE NEIGHBOUR: 'it returns false'. Refute it at one input. -/
def fnRGBA64SubSubWrong : ChangeSpec := { name := "fnRGBA64SubSub", fn := fun _ => fun
  | [d1, d2, d3, d4, d5] => { results := [.lit (.bool false)], args := [d1, d2, d3, d4, d5] }
  | _ => none }
def FnRGBA64SubSubWrongFalsely : Prop := fnRGBA64SubSubRow.holds Try.pinned (OpenSpec.ofChange fnRGBA64SubSubWrong)

/-- 'laws.FnRGBA64Run': WHATEVER THE INPUT: true; the input reads as it did. -/
def fnRGBA64RunSpec : ChangeSpec := { name := "fnRGBA64Run", fn := fun _ => fun
  | [d1, d2] => { results := [.lit (.bool true)], args := [d1, d2] }
  | _ => none }
def fnRGBA64RunRow : OpenClaim := { program := "ytmpdoliolgnehaa", sum := "17f815edc36fa06391363d616da414a6a79be93e87381a0002378e46b5ec182f", func := "lib-sheetfilm/laws.FnRGBA64Run", spec := "fnRGBA64Run", apart := false }
def FnRGBA64RunSaid : Prop := fnRGBA64RunRow.holds Try.pinned (OpenSpec.ofChange fnRGBA64RunSpec)

/-- ITS FALSE NEIGHBOUR: 'it returns false'. Refute it at one input. -/
def fnRGBA64RunWrong : ChangeSpec := { name := "fnRGBA64Run", fn := fun _ => fun
  | [d1, d2] => { results := [.lit (.bool false)], args := [d1, d2] }
  | _ => none }
def FnRGBA64RunWrongFalsely : Prop := fnRGBA64RunRow.holds Try.pinned (OpenSpec.ofChange fnRGBA64RunWrong)

/-- 'laws.FnRGBA64AtOutside': WHATEVER THE INPUT: true; the input reads as it did. -/
def fnRGBA64AtOutsideSpec : ChangeSpec := { name := "fnRGBA64AtOutside", fn := fun _ => fun
  | [d1, d2, d3] => { results := [.lit (.bool true)], args := [d1, d2, d3] }
  | _ => none }
def fnRGBA64AtOutsideRow : OpenClaim := { program := "ytmpdoliolgnehaa", sum := "17f815edc36fa06391363d616da414a6a79be93e87381a0002378e46b5ec182f", func := "lib-sheetfilm/laws.FnRGBA64AtOutside", spec := "fnRGBA64AtOutside", inPlace := ["internal/bytealg.MakeNoZero"], apart := false }
def FnRGBA64AtOutsideSaid : Prop := fnRGBA64AtOutsideRow.holds Try.pinned (OpenSpec.ofChange fnRGBA64AtOutsideSpec)

/-- ITS FALSE NEIGHBOUR: 'it returns false'. Refute it at one input. -/
def fnRGBA64AtOutsideWrong : ChangeSpec := { name := "fnRGBA64AtOutside", fn := fun _ => fun
  | [d1, d2, d3] => { results := [.lit (.bool false)], args := [d1, d2, d3] }
  | _ => none }
def FnRGBA64AtOutsideWrongFalsely : Prop := fnRGBA64AtOutsideRow.holds Try.pinned (OpenSpec.ofChange fnRGBA64AtOutsideWrong)

/-- 'laws.FnRGBA64SubShares': WHATEVER THE INPUT: true; the input reads as it did. -/
def fnRGBA64SubSharesSpec : ChangeSpec := { name := "fnRGBA64SubShares", fn := fun _ => fun
  | [d1, d2, d3, d4, d5] => { results := [.lit (.bool true)], args := [d1, d2, d3, d4, d5] }
  | _ => none }
def fnRGBA64SubSharesRow : OpenClaim := { program := "ytmpdoliolgnehaa", sum := "17f815edc36fa06391363d616da414a6a79be93e87381a0002378e46b5ec182f", func := "lib-sheetfilm/laws.FnRGBA64SubShares", spec := "fnRGBA64SubShares", apart := false }
def FnRGBA64SubSharesSaid : Prop := fnRGBA64SubSharesRow.holds Try.pinned (OpenSpec.ofChange fnRGBA64SubSharesSpec)

/-- ITS FALSE NEIGHBOUR: 'it returns false'. Refute it at one input. -/
def fnRGBA64SubSharesWrong : ChangeSpec := { name := "fnRGBA64SubShares", fn := fun _ => fun
  | [d1, d2, d3, d4, d5] => { results := [.lit (.bool false)], args := [d1, d2, d3, d4, d5] }
  | _ => none }
def FnRGBA64SubSharesWrongFalsely : Prop := fnRGBA64SubSharesRow.holds Try.pinned (OpenSpec.ofChange fnRGBA64SubSharesWrong)

/- THE SECOND FORM. 'bulk': how many values and letters a reading holds, each counted each time it is reached (what is shared counts as often as it is met; a slice's spare places count too). A statement '..UptoSaid' is the law's where the arguments, and the package variables that the reading takes, are together of bulk at most 1048576: NARROWER than '..Said'. Prove '..Said' where nothing that the law and all that it calls make is longer than what came in: it says more and counts as full. Else prove '..UptoSaid'. A law counts once. -/
mutual
def uptoBulk {H : Type} : DataW H → Nat
  | .lit (.string bytes) => bytes.length + 1
  | .lit _ => 1
  | .nil => 1
  | .ptr d => uptoBulk d + 1
  | .slice elems spare => uptoBulkAll elems + uptoBulkAll spare + 1
  | .agg parts => uptoBulkAll parts + 1
  | .iface _ d => uptoBulk d + 1
  | .map entries => uptoBulkEntries entries + 1
  | .held _ => 1
def uptoBulkAll {H : Type} : List (DataW H) → Nat
  | [] => 0
  | d :: r => uptoBulk d + uptoBulkAll r
def uptoBulkEntries {H : Type} : List (Lit × DataW H) → Nat
  | [] => 0
  | x :: r => uptoBulkEntry x + uptoBulkEntries r
def uptoBulkEntry {H : Type} : Lit × DataW H → Nat
  | (.string bytes, d) => bytes.length + uptoBulk d + 1
  | (_, d) => uptoBulk d + 1
 end
def uptoSmall : (H : Type) → List (DataW H) → Bool := fun _ ds => decide (uptoBulkAll ds ≤ 1048576)
def OpenSpec.upto (s : _root_.Go.ChangeSpec) : _root_.Go.OpenSpec := { _root_.Go.OpenSpec.ofChange s with cond := some uptoSmall }

/-- 'laws.FnRGBA64Offset', WHERE WHAT IT READS IS OF BULK AT MOST 1048576: true; the input reads as it did. -/
def fnRGBA64OffsetUptoRow : OpenClaim := { program := "ytmpdoliolgnehaa", sum := "17f815edc36fa06391363d616da414a6a79be93e87381a0002378e46b5ec182f", func := "lib-sheetfilm/laws.FnRGBA64Offset", spec := "fnRGBA64Offset", apart := false, narrowed := true }
def FnRGBA64OffsetUptoSaid : Prop := fnRGBA64OffsetUptoRow.holds Try.pinned (OpenSpec.upto fnRGBA64OffsetSpec)

/-- 'laws.FnRGBA64OffsetAnywhere', WHERE WHAT IT READS IS OF BULK AT MOST 1048576: true; the input reads as it did. -/
def fnRGBA64OffsetAnywhereUptoRow : OpenClaim := { program := "ytmpdoliolgnehaa", sum := "17f815edc36fa06391363d616da414a6a79be93e87381a0002378e46b5ec182f", func := "lib-sheetfilm/laws.FnRGBA64OffsetAnywhere", spec := "fnRGBA64OffsetAnywhere", apart := false, narrowed := true }
def FnRGBA64OffsetAnywhereUptoSaid : Prop := fnRGBA64OffsetAnywhereUptoRow.holds Try.pinned (OpenSpec.upto fnRGBA64OffsetAnywhereSpec)

/-- 'laws.FnRGBA64At', WHERE WHAT IT READS IS OF BULK AT MOST 1048576: true; the input reads as it did. -/
def fnRGBA64AtUptoRow : OpenClaim := { program := "ytmpdoliolgnehaa", sum := "17f815edc36fa06391363d616da414a6a79be93e87381a0002378e46b5ec182f", func := "lib-sheetfilm/laws.FnRGBA64At", spec := "fnRGBA64At", apart := false, narrowed := true }
def FnRGBA64AtUptoSaid : Prop := fnRGBA64AtUptoRow.holds Try.pinned (OpenSpec.upto fnRGBA64AtSpec)

/-- 'laws.FnRGBA64Opaque', WHERE WHAT IT READS IS OF BULK AT MOST 1048576: true; the input reads as it did. -/
def fnRGBA64OpaqueUptoRow : OpenClaim := { program := "ytmpdoliolgnehaa", sum := "17f815edc36fa06391363d616da414a6a79be93e87381a0002378e46b5ec182f", func := "lib-sheetfilm/laws.FnRGBA64Opaque", spec := "fnRGBA64Opaque", apart := false, narrowed := true }
def FnRGBA64OpaqueUptoSaid : Prop := fnRGBA64OpaqueUptoRow.holds Try.pinned (OpenSpec.upto fnRGBA64OpaqueSpec)

/-- 'laws.FnRGBA64SetOutside', WHERE WHAT IT READS IS OF BULK AT MOST 1048576: true; the input reads as it did. -/
def fnRGBA64SetOutsideUptoRow : OpenClaim := { program := "ytmpdoliolgnehaa", sum := "17f815edc36fa06391363d616da414a6a79be93e87381a0002378e46b5ec182f", func := "lib-sheetfilm/laws.FnRGBA64SetOutside", spec := "fnRGBA64SetOutside", apart := false, narrowed := true }
def FnRGBA64SetOutsideUptoSaid : Prop := fnRGBA64SetOutsideUptoRow.holds Try.pinned (OpenSpec.upto fnRGBA64SetOutsideSpec)

/-- 'laws.FnRGBA64New', WHERE WHAT IT READS IS OF BULK AT MOST 1048576: true; the input reads as it did. -/
def fnRGBA64NewUptoRow : OpenClaim := { program := "ytmpdoliolgnehaa", sum := "17f815edc36fa06391363d616da414a6a79be93e87381a0002378e46b5ec182f", func := "lib-sheetfilm/laws.FnRGBA64New", spec := "fnRGBA64New", apart := false, narrowed := true }
def FnRGBA64NewUptoSaid : Prop := fnRGBA64NewUptoRow.holds Try.pinned (OpenSpec.upto fnRGBA64NewSpec)

/-- 'laws.FnRGBA64Set', WHERE WHAT IT READS IS OF BULK AT MOST 1048576: true; the input reads as it did. -/
def fnRGBA64SetUptoRow : OpenClaim := { program := "ytmpdoliolgnehaa", sum := "17f815edc36fa06391363d616da414a6a79be93e87381a0002378e46b5ec182f", func := "lib-sheetfilm/laws.FnRGBA64Set", spec := "fnRGBA64Set", apart := false, narrowed := true }
def FnRGBA64SetUptoSaid : Prop := fnRGBA64SetUptoRow.holds Try.pinned (OpenSpec.upto fnRGBA64SetSpec)

/-- 'laws.FnRGBA64NewBlank', WHERE WHAT IT READS IS OF BULK AT MOST 1048576: true; the input reads as it did. -/
def fnRGBA64NewBlankUptoRow : OpenClaim := { program := "ytmpdoliolgnehaa", sum := "17f815edc36fa06391363d616da414a6a79be93e87381a0002378e46b5ec182f", func := "lib-sheetfilm/laws.FnRGBA64NewBlank", spec := "fnRGBA64NewBlank", unfollowed := true, recurses := true, apart := false, narrowed := true }
def FnRGBA64NewBlankUptoSaid : Prop := fnRGBA64NewBlankUptoRow.holds Try.pinned (OpenSpec.upto fnRGBA64NewBlankSpec)

/-- 'laws.FnRGBA64Sub', WHERE WHAT IT READS IS OF BULK AT MOST 1048576: true; the input reads as it did. -/
def fnRGBA64SubUptoRow : OpenClaim := { program := "ytmpdoliolgnehaa", sum := "17f815edc36fa06391363d616da414a6a79be93e87381a0002378e46b5ec182f", func := "lib-sheetfilm/laws.FnRGBA64Sub", spec := "fnRGBA64Sub", apart := false, narrowed := true }
def FnRGBA64SubUptoSaid : Prop := fnRGBA64SubUptoRow.holds Try.pinned (OpenSpec.upto fnRGBA64SubSpec)

/-- 'laws.FnRGBA64SubSub', WHERE WHAT IT READS IS OF BULK AT MOST 1048576: true; the input reads as it did. -/
def fnRGBA64SubSubUptoRow : OpenClaim := { program := "ytmpdoliolgnehaa", sum := "17f815edc36fa06391363d616da414a6a79be93e87381a0002378e46b5ec182f", func := "lib-sheetfilm/laws.FnRGBA64SubSub", spec := "fnRGBA64SubSub", apart := false, narrowed := true }
def FnRGBA64SubSubUptoSaid : Prop := fnRGBA64SubSubUptoRow.holds Try.pinned (OpenSpec.upto fnRGBA64SubSubSpec)

/-- 'laws.FnRGBA64Run', WHERE WHAT IT READS IS OF BULK AT MOST 1048576: true; the input reads as it did. -/
def fnRGBA64RunUptoRow : OpenClaim := { program := "ytmpdoliolgnehaa", sum := "17f815edc36fa06391363d616da414a6a79be93e87381a0002378e46b5ec182f", func := "lib-sheetfilm/laws.FnRGBA64Run", spec := "fnRGBA64Run", apart := false, narrowed := true }
def FnRGBA64RunUptoSaid : Prop := fnRGBA64RunUptoRow.holds Try.pinned (OpenSpec.upto fnRGBA64RunSpec)

/-- 'laws.FnRGBA64AtOutside', WHERE WHAT IT READS IS OF BULK AT MOST 1048576: true; the input reads as it did. -/
def fnRGBA64AtOutsideUptoRow : OpenClaim := { program := "ytmpdoliolgnehaa", sum := "17f815edc36fa06391363d616da414a6a79be93e87381a0002378e46b5ec182f", func := "lib-sheetfilm/laws.FnRGBA64AtOutside", spec := "fnRGBA64AtOutside", inPlace := ["internal/bytealg.MakeNoZero"], apart := false, narrowed := true }
def FnRGBA64AtOutsideUptoSaid : Prop := fnRGBA64AtOutsideUptoRow.holds Try.pinned (OpenSpec.upto fnRGBA64AtOutsideSpec)

/-- 'laws.FnRGBA64SubShares', WHERE WHAT IT READS IS OF BULK AT MOST 1048576: true; the input reads as it did. -/
def fnRGBA64SubSharesUptoRow : OpenClaim := { program := "ytmpdoliolgnehaa", sum := "17f815edc36fa06391363d616da414a6a79be93e87381a0002378e46b5ec182f", func := "lib-sheetfilm/laws.FnRGBA64SubShares", spec := "fnRGBA64SubShares", apart := false, narrowed := true }
def FnRGBA64SubSharesUptoSaid : Prop := fnRGBA64SubSharesUptoRow.holds Try.pinned (OpenSpec.upto fnRGBA64SubSharesSpec)

end Rows
end Go.Proofs.Ytmpdoliolgnehaa
