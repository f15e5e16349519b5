/-
  No cell of these rows narrows 'for every input' (looked for: loops, veiled, ifaces, maps, wideKeys, modest, calm, conditions, laid).
  DERIVED. THE GIVEN ROWS OF THIS SEAT. 13 by the template 'for every input the law returns true; each argument reads behind the call as it read before'; 0 by the template 'total and deterministic' (their statements: YtcflhlcbajfiaaaTotals.lean).
  GIVEN WITH THE SEED: the statements are not yours to turn. If you find one false, say at which input.
  Laid BY PROGRAM, IN A SANDBOX (cutbox-rows.mjs): the forced cells as the released guide's own fill.sh prints them over the translation 8e93f55af36b56c2… (all of the seat's roots in one cut). By AI agents, Wed Nov 11 2026. No macro, syntax, notation, axiom, sorry.
-/
import Derived.Test.YtcflhlcbajfiaaaChecked
import GoSem.Claim
import GoSem.ClaimJoined
import GoSem.ClaimMapViews
import Derived.JoinedTies
import Derived.KernelRfl
namespace Go.Proofs.Ytcflhlcbajfiaaa
/- THE CELL 'sum', in the pinned program and in every row, IS THE sha256 OF THE DUMP (.gsa) THAT YtcflhlcbajfiaaaProg.lean LOADS. Nothing in Lean hashes anything: it is a label: what it is worth is what the hold of that sum in a sandbox is worth. -/
noncomputable def Try.pinned : Pinned := { name := "ytcflhlcbajfiaaa", sum := "8e93f55af36b56c228448e5429baa3fc6c6ee6bcaf6c5c92555c0a4423b9b986", checked := Try.checked }
namespace Rows
def none {H : Type} : Left H := { results := [], args := [] }

/-- 'laws.FnAlpha16Offset': WHATEVER THE INPUT: true; the input reads as it did. -/
def fnAlpha16OffsetSpec : ChangeSpec := { name := "fnAlpha16Offset", fn := fun _ => fun
  | [d1, d2, d3] => { results := [.lit (.bool true)], args := [d1, d2, d3] }
  | _ => none }
def fnAlpha16OffsetRow : OpenClaim := { program := "ytcflhlcbajfiaaa", sum := "8e93f55af36b56c228448e5429baa3fc6c6ee6bcaf6c5c92555c0a4423b9b986", func := "lib-sheetfilm/laws.FnAlpha16Offset", spec := "fnAlpha16Offset", apart := false }
def FnAlpha16OffsetSaid : Prop := fnAlpha16OffsetRow.holds Try.pinned (OpenSpec.ofChange fnAlpha16OffsetSpec)

/-- ITS FALSE NEIGHBOUR: 'it returns false'. Refute it at one input. -/
def fnAlpha16OffsetWrong : ChangeSpec := { name := "fnAlpha16Offset", fn := fun _ => fun
  | [d1, d2, d3] => { results := [.lit (.bool false)], args := [d1, d2, d3] }
  | _ => none }
def FnAlpha16OffsetWrongFalsely : Prop := fnAlpha16OffsetRow.holds Try.pinned (OpenSpec.ofChange fnAlpha16OffsetWrong)

/-- 'laws.FnAlpha16OffsetAnywhere': WHATEVER THE INPUT: true; the input reads as it did. -/
def fnAlpha16OffsetAnywhereSpec : ChangeSpec := { name := "fnAlpha16OffsetAnywhere", fn := fun _ => fun
  | [d1, d2, d3] => { results := [.lit (.bool true)], args := [d1, d2, d3] }
  | _ => none }
def fnAlpha16OffsetAnywhereRow : OpenClaim := { program := "ytcflhlcbajfiaaa", sum := "8e93f55af36b56c228448e5429baa3fc6c6ee6bcaf6c5c92555c0a4423b9b986", func := "lib-sheetfilm/laws.FnAlpha16OffsetAnywhere", spec := "fnAlpha16OffsetAnywhere", apart := false }
def FnAlpha16OffsetAnywhereSaid : Prop := fnAlpha16OffsetAnywhereRow.holds Try.pinned (OpenSpec.ofChange fnAlpha16OffsetAnywhereSpec)

/-- ITS FALSE NEIGHBOUR: 'it returns false'. Refute it at one input. -/
def fnAlpha16OffsetAnywhereWrong : ChangeSpec := { name := "fnAlpha16OffsetAnywhere", fn := fun _ => fun
  | [d1, d2, d3] => { results := [.lit (.bool false)], args := [d1, d2, d3] }
  | _ => none }
def FnAlpha16OffsetAnywhereWrongFalsely : Prop := fnAlpha16OffsetAnywhereRow.holds Try.pinned (OpenSpec.ofChange fnAlpha16OffsetAnywhereWrong)

/-- 'laws.FnAlpha16At': WHATEVER THE INPUT: true; the input reads as it did. -/
def fnAlpha16AtSpec : ChangeSpec := { name := "fnAlpha16At", fn := fun _ => fun
  | [d1, d2, d3] => { results := [.lit (.bool true)], args := [d1, d2, d3] }
  | _ => none }
def fnAlpha16AtRow : OpenClaim := { program := "ytcflhlcbajfiaaa", sum := "8e93f55af36b56c228448e5429baa3fc6c6ee6bcaf6c5c92555c0a4423b9b986", func := "lib-sheetfilm/laws.FnAlpha16At", spec := "fnAlpha16At", apart := false }
def FnAlpha16AtSaid : Prop := fnAlpha16AtRow.holds Try.pinned (OpenSpec.ofChange fnAlpha16AtSpec)

/-- ITS FALSE NEIGHBOUR: 'it returns false'. Refute it at one input. -/
def fnAlpha16AtWrong : ChangeSpec := { name := "fnAlpha16At", fn := fun _ => fun
  | [d1, d2, d3] => { results := [.lit (.bool false)], args := [d1, d2, d3] }
  | _ => none }
def FnAlpha16AtWrongFalsely : Prop := fnAlpha16AtRow.holds Try.pinned (OpenSpec.ofChange fnAlpha16AtWrong)

/-- 'laws.FnAlpha16Opaque': WHATEVER THE INPUT: true; the input reads as it did. -/
def fnAlpha16OpaqueSpec : ChangeSpec := { name := "fnAlpha16Opaque", fn := fun _ => fun
  | [d] => { results := [.lit (.bool true)], args := [d] }
  | _ => none }
def fnAlpha16OpaqueRow : OpenClaim := { program := "ytcflhlcbajfiaaa", sum := "8e93f55af36b56c228448e5429baa3fc6c6ee6bcaf6c5c92555c0a4423b9b986", func := "lib-sheetfilm/laws.FnAlpha16Opaque", spec := "fnAlpha16Opaque", apart := false }
def FnAlpha16OpaqueSaid : Prop := fnAlpha16OpaqueRow.holds Try.pinned (OpenSpec.ofChange fnAlpha16OpaqueSpec)

/-- ITS FALSE NEIGHBOUR: 'it returns false'. Refute it at one input. -/
def fnAlpha16OpaqueWrong : ChangeSpec := { name := "fnAlpha16Opaque", fn := fun _ => fun
  | [d] => { results := [.lit (.bool false)], args := [d] }
  | _ => none }
def FnAlpha16OpaqueWrongFalsely : Prop := fnAlpha16OpaqueRow.holds Try.pinned (OpenSpec.ofChange fnAlpha16OpaqueWrong)

/-- 'laws.FnAlpha16SetOutside': WHATEVER THE INPUT: true; the input reads as it did. -/
def fnAlpha16SetOutsideSpec : ChangeSpec := { name := "fnAlpha16SetOutside", fn := fun _ => fun
  | [d1, d2, d3, d4] => { results := [.lit (.bool true)], args := [d1, d2, d3, d4] }
  | _ => none }
def fnAlpha16SetOutsideRow : OpenClaim := { program := "ytcflhlcbajfiaaa", sum := "8e93f55af36b56c228448e5429baa3fc6c6ee6bcaf6c5c92555c0a4423b9b986", func := "lib-sheetfilm/laws.FnAlpha16SetOutside", spec := "fnAlpha16SetOutside", apart := false }
def FnAlpha16SetOutsideSaid : Prop := fnAlpha16SetOutsideRow.holds Try.pinned (OpenSpec.ofChange fnAlpha16SetOutsideSpec)

/-- ITS FALSE NEIGHBOUR: 'it returns false'. Refute it at one input. -/
def fnAlpha16SetOutsideWrong : ChangeSpec := { name := "fnAlpha16SetOutside", fn := fun _ => fun
  | [d1, d2, d3, d4] => { results := [.lit (.bool false)], args := [d1, d2, d3, d4] }
  | _ => none }
def FnAlpha16SetOutsideWrongFalsely : Prop := fnAlpha16SetOutsideRow.holds Try.pinned (OpenSpec.ofChange fnAlpha16SetOutsideWrong)

/-- 'laws.FnAlpha16Set': WHATEVER THE INPUT: true; the input reads as it did. -/
def fnAlpha16SetSpec : ChangeSpec := { name := "fnAlpha16Set", fn := fun _ => fun
  | [d1, d2, d3, d4] => { results := [.lit (.bool true)], args := [d1, d2, d3, d4] }
  | _ => none }
def fnAlpha16SetRow : OpenClaim := { program := "ytcflhlcbajfiaaa", sum := "8e93f55af36b56c228448e5429baa3fc6c6ee6bcaf6c5c92555c0a4423b9b986", func := "lib-sheetfilm/laws.FnAlpha16Set", spec := "fnAlpha16Set", apart := false }
def FnAlpha16SetSaid : Prop := fnAlpha16SetRow.holds Try.pinned (OpenSpec.ofChange fnAlpha16SetSpec)

/-- ITS FALSE NEIGHBOUR: 'it returns false'. Refute it at one input. -/
def fnAlpha16SetWrong : ChangeSpec := { name := "fnAlpha16Set", fn := fun _ => fun
  | [d1, d2, d3, d4] => { results := [.lit (.bool false)], args := [d1, d2, d3, d4] }
  | _ => none }
def FnAlpha16SetWrongFalsely : Prop := fnAlpha16SetRow.holds Try.pinned (OpenSpec.ofChange fnAlpha16SetWrong)

/-- 'laws.FnAlpha16New': WHATEVER THE INPUT: true; the input reads as it did. -/
def fnAlpha16NewSpec : ChangeSpec := { name := "fnAlpha16New", fn := fun _ => fun
  | [d] => { results := [.lit (.bool true)], args := [d] }
  | _ => none }
def fnAlpha16NewRow : OpenClaim := { program := "ytcflhlcbajfiaaa", sum := "8e93f55af36b56c228448e5429baa3fc6c6ee6bcaf6c5c92555c0a4423b9b986", func := "lib-sheetfilm/laws.FnAlpha16New", spec := "fnAlpha16New", apart := false }
def FnAlpha16NewSaid : Prop := fnAlpha16NewRow.holds Try.pinned (OpenSpec.ofChange fnAlpha16NewSpec)

/-- ITS FALSE NEIGHBOUR: 'it returns false'. Refute it at one input. -/
def fnAlpha16NewWrong : ChangeSpec := { name := "fnAlpha16New", fn := fun _ => fun
  | [d] => { results := [.lit (.bool false)], args := [d] }
  | _ => none }
def FnAlpha16NewWrongFalsely : Prop := fnAlpha16NewRow.holds Try.pinned (OpenSpec.ofChange fnAlpha16NewWrong)

/-- 'laws.FnAlpha16NewBlank': WHATEVER THE INPUT: true; the input reads as it did. -/
def fnAlpha16NewBlankSpec : ChangeSpec := { name := "fnAlpha16NewBlank", fn := fun _ => fun
  | [d] => { results := [.lit (.bool true)], args := [d] }
  | _ => none }
def fnAlpha16NewBlankRow : OpenClaim := { program := "ytcflhlcbajfiaaa", sum := "8e93f55af36b56c228448e5429baa3fc6c6ee6bcaf6c5c92555c0a4423b9b986", func := "lib-sheetfilm/laws.FnAlpha16NewBlank", spec := "fnAlpha16NewBlank", unfollowed := true, recurses := true, apart := false }
def FnAlpha16NewBlankSaid : Prop := fnAlpha16NewBlankRow.holds Try.pinned (OpenSpec.ofChange fnAlpha16NewBlankSpec)

/-- ITS FALSE NEIGHBOUR: 'it returns false'. Refute it at one input. -/
def fnAlpha16NewBlankWrong : ChangeSpec := { name := "fnAlpha16NewBlank", fn := fun _ => fun
  | [d] => { results := [.lit (.bool false)], args := [d] }
  | _ => none }
def FnAlpha16NewBlankWrongFalsely : Prop := fnAlpha16NewBlankRow.holds Try.pinned (OpenSpec.ofChange fnAlpha16NewBlankWrong)

/-- 'laws.FnAlpha16Sub': WHATEVER THE INPUT: true; the input reads as it did. -/
def fnAlpha16SubSpec : ChangeSpec := { name := "fnAlpha16Sub", fn := fun _ => fun
  | [d1, d2, d3, d4] => { results := [.lit (.bool true)], args := [d1, d2, d3, d4] }
  | _ => none }
def fnAlpha16SubRow : OpenClaim := { program := "ytcflhlcbajfiaaa", sum := "8e93f55af36b56c228448e5429baa3fc6c6ee6bcaf6c5c92555c0a4423b9b986", func := "lib-sheetfilm/laws.FnAlpha16Sub", spec := "fnAlpha16Sub", apart := false }
def FnAlpha16SubSaid : Prop := fnAlpha16SubRow.holds Try.pinned (OpenSpec.ofChange fnAlpha16SubSpec)

/-- ITS FALSE NEIGHBOUR: 'it returns false'. Refute it at one input. -/
def fnAlpha16SubWrong : ChangeSpec := { name := "fnAlpha16Sub", fn := fun _ => fun
  | [d1, d2, d3, d4] => { results := [.lit (.bool false)], args := [d1, d2, d3, d4] }
  | _ => none }
def FnAlpha16SubWrongFalsely : Prop := fnAlpha16SubRow.holds Try.pinned (OpenSpec.ofChange fnAlpha16SubWrong)

/-- 'laws.FnAlpha16SubSub': WHATEVER THE INPUT: true; the input reads as it did. -/
def fnAlpha16SubSubSpec : ChangeSpec := { name := "fnAlpha16SubSub", fn := fun _ => fun
  | [d1, d2, d3, d4, d5] => { results := [.lit (.bool true)], args := [d1, d2, d3, d4, d5] }
  | _ => none }
def fnAlpha16SubSubRow : OpenClaim := { program := "ytcflhlcbajfiaaa", sum := "8e93f55af36b56c228448e5429baa3fc6c6ee6bcaf6c5c92555c0a4423b9b986", func := "lib-sheetfilm/laws.FnAlpha16SubSub", spec := "fnAlpha16SubSub", apart := false }
def FnAlpha16SubSubSaid : Prop := fnAlpha16SubSubRow.holds Try.pinned (OpenSpec.ofChange fnAlpha16SubSubSpec)

/-- ITS FALSE NEIGHBOUR: 'it returns false'. Refute it at one input. -/
def fnAlpha16SubSubWrong : ChangeSpec := { name := "fnAlpha16SubSub", fn := fun _ => fun
  | [d1, d2, d3, d4, d5] => { results := [.lit (.bool false)], args := [d1, d2, d3, d4, d5] }
  | _ => none }
def FnAlpha16SubSubWrongFalsely : Prop := fnAlpha16SubSubRow.holds Try.pinned (OpenSpec.ofChange fnAlpha16SubSubWrong)

/-- 'laws.FnAlpha16Run': WHATEVER THE INPUT: true; the input reads as it did. -/
def fnAlpha16RunSpec : ChangeSpec := { name := "fnAlpha16Run", fn := fun _ => fun
  | [d1, d2] => { results := [.lit (.bool true)], args := [d1, d2] }
  | _ => none }
def fnAlpha16RunRow : OpenClaim := { program := "ytcflhlcbajfiaaa", sum := "8e93f55af36b56c228448e5429baa3fc6c6ee6bcaf6c5c92555c0a4423b9b986", func := "lib-sheetfilm/laws.FnAlpha16Run", spec := "fnAlpha16Run", apart := false }
def FnAlpha16RunSaid : Prop := fnAlpha16RunRow.holds Try.pinned (OpenSpec.ofChange fnAlpha16RunSpec)

/-- ITS FALSE NEIGHBOUR: 'it returns false'. Refute it at one input. -/
def fnAlpha16RunWrong : ChangeSpec := { name := "fnAlpha16Run", fn := fun _ => fun
  | [d1, d2] => { results := [.lit (.bool false)], args := [d1, d2] }
  | _ => none }
def FnAlpha16RunWrongFalsely : Prop := fnAlpha16RunRow.holds Try.pinned (OpenSpec.ofChange fnAlpha16RunWrong)

/-- 'laws.FnAlpha16AtOutside': WHATEVER THE INPUT: true; the input reads as it did. -/
def fnAlpha16AtOutsideSpec : ChangeSpec := { name := "fnAlpha16AtOutside", fn := fun _ => fun
  | [d1, d2, d3] => { results := [.lit (.bool true)], args := [d1, d2, d3] }
  | _ => none }
def fnAlpha16AtOutsideRow : OpenClaim := { program := "ytcflhlcbajfiaaa", sum := "8e93f55af36b56c228448e5429baa3fc6c6ee6bcaf6c5c92555c0a4423b9b986", func := "lib-sheetfilm/laws.FnAlpha16AtOutside", spec := "fnAlpha16AtOutside", inPlace := ["internal/bytealg.MakeNoZero"], apart := false }
def FnAlpha16AtOutsideSaid : Prop := fnAlpha16AtOutsideRow.holds Try.pinned (OpenSpec.ofChange fnAlpha16AtOutsideSpec)

/-- ITS FALSE NEIGHBOUR: 'it returns false'. Refute it at one input. -/
def fnAlpha16AtOutsideWrong : ChangeSpec := { name := "fnAlpha16AtOutside", fn := fun _ => fun
  | [d1, d2, d3] => { results := [.lit (.bool false)], args := [d1, d2, d3] }
  | _ => none }
def FnAlpha16AtOutsideWrongFalsely : Prop := fnAlpha16AtOutsideRow.holds Try.pinned (OpenSpec.ofChange fnAlpha16AtOutsideWrong)

/-- 'laws.FnAlpha16SubShares': WHATEVER THE INPUT: true; the input reads as it did. -/
def fnAlpha16SubSharesSpec : ChangeSpec := { name := "fnAlpha16SubShares", fn := fun _ => fun
  | [d1, d2, d3, d4, d5] => { results := [.lit (.bool true)], args := [d1, d2, d3, d4, d5] }
  | _ => none }
def fnAlpha16SubSharesRow : OpenClaim := { program := "ytcflhlcbajfiaaa", sum := "8e93f55af36b56c228448e5429baa3fc6c6ee6bcaf6c5c92555c0a4423b9b986", func := "lib-sheetfilm/laws.FnAlpha16SubShares", spec := "fnAlpha16SubShares", apart := false }
def FnAlpha16SubSharesSaid : Prop := fnAlpha16SubSharesRow.holds Try.pinned (OpenSpec.ofChange fnAlpha16SubSharesSpec)

/-- ITS FALSE NEIGHBOUR: 'it returns false'. Refute it at one input. -/
def fnAlpha16SubSharesWrong : ChangeSpec := { name := "fnAlpha16SubShares", fn := fun _ => fun
  | [d1, d2, d3, d4, d5] => { results := [.lit (.bool false)], args := [d1, d2, d3, d4, d5] }
  | _ => none }
def FnAlpha16SubSharesWrongFalsely : Prop := fnAlpha16SubSharesRow.holds Try.pinned (OpenSpec.ofChange fnAlpha16SubSharesWrong)

/- THE SECOND FORM. 'bulk': how many values and letters a reading holds, each counted each time it is reached (what is shared counts as often as it is met; a slice's spare places count too). A statement '..UptoSaid' is the law's where the arguments, and the package variables that the reading takes, are together of bulk at most 1048576: NARROWER than '..Said'. Prove '..Said' where nothing that the law and all that it calls make is longer than what came in: it says more and counts as full. Else prove '..UptoSaid'. A law counts once. -/
mutual
def uptoBulk {H : Type} : DataW H → Nat
  | .lit (.string bytes) => bytes.length + 1
  | .lit _ => 1
  | .nil => 1
  | .ptr d => uptoBulk d + 1
  | .slice elems spare => uptoBulkAll elems + uptoBulkAll spare + 1
  | .agg parts => uptoBulkAll parts + 1
  | .iface _ d => uptoBulk d + 1
  | .map entries => uptoBulkEntries entries + 1
  | .held _ => 1
def uptoBulkAll {H : Type} : List (DataW H) → Nat
  | [] => 0
  | d :: r => uptoBulk d + uptoBulkAll r
def uptoBulkEntries {H : Type} : List (Lit × DataW H) → Nat
  | [] => 0
  | x :: r => uptoBulkEntry x + uptoBulkEntries r
def uptoBulkEntry {H : Type} : Lit × DataW H → Nat
  | (.string bytes, d) => bytes.length + uptoBulk d + 1
  | (_, d) => uptoBulk d + 1
 end
def uptoSmall : (H : Type) → List (DataW H) → Bool := fun _ ds => decide (uptoBulkAll ds ≤ 1048576)
def OpenSpec.upto (s : _root_.Go.ChangeSpec) : _root_.Go.OpenSpec := { _root_.Go.OpenSpec.ofChange s with cond := some uptoSmall }

/-- 'laws.FnAlpha16Offset', WHERE WHAT IT READS IS OF BULK AT MOST 1048576: true; the input reads as it did. -/
def fnAlpha16OffsetUptoRow : OpenClaim := { program := "ytcflhlcbajfiaaa", sum := "8e93f55af36b56c228448e5429baa3fc6c6ee6bcaf6c5c92555c0a4423b9b986", func := "lib-sheetfilm/laws.FnAlpha16Offset", spec := "fnAlpha16Offset", apart := false, narrowed := true }
def FnAlpha16OffsetUptoSaid : Prop := fnAlpha16OffsetUptoRow.holds Try.pinned (OpenSpec.upto fnAlpha16OffsetSpec)

/-- 'laws.FnAlpha16OffsetAnywhere', WHERE WHAT IT READS IS OF BULK AT MOST 1048576: true; the input reads as it did. -/
def fnAlpha16OffsetAnywhereUptoRow : OpenClaim := { program := "ytcflhlcbajfiaaa", sum := "8e93f55af36b56c228448e5429baa3fc6c6ee6bcaf6c5c92555c0a4423b9b986", func := "lib-sheetfilm/laws.FnAlpha16OffsetAnywhere", spec := "fnAlpha16OffsetAnywhere", apart := false, narrowed := true }
def FnAlpha16OffsetAnywhereUptoSaid : Prop := fnAlpha16OffsetAnywhereUptoRow.holds Try.pinned (OpenSpec.upto fnAlpha16OffsetAnywhereSpec)

/-- 'laws.FnAlpha16At', WHERE WHAT IT READS IS OF BULK AT MOST 1048576: true; the input reads as it did. -/
def fnAlpha16AtUptoRow : OpenClaim := { program := "ytcflhlcbajfiaaa", sum := "8e93f55af36b56c228448e5429baa3fc6c6ee6bcaf6c5c92555c0a4423b9b986", func := "lib-sheetfilm/laws.FnAlpha16At", spec := "fnAlpha16At", apart := false, narrowed := true }
def FnAlpha16AtUptoSaid : Prop := fnAlpha16AtUptoRow.holds Try.pinned (OpenSpec.upto fnAlpha16AtSpec)

/-- 'laws.FnAlpha16Opaque', WHERE WHAT IT READS IS OF BULK AT MOST 1048576: true; the input reads as it did. -/
def fnAlpha16OpaqueUptoRow : OpenClaim := { program := "ytcflhlcbajfiaaa", sum := "8e93f55af36b56c228448e5429baa3fc6c6ee6bcaf6c5c92555c0a4423b9b986", func := "lib-sheetfilm/laws.FnAlpha16Opaque", spec := "fnAlpha16Opaque", apart := false, narrowed := true }
def FnAlpha16OpaqueUptoSaid : Prop := fnAlpha16OpaqueUptoRow.holds Try.pinned (OpenSpec.upto fnAlpha16OpaqueSpec)

/-- 'laws.FnAlpha16SetOutside', WHERE WHAT IT READS IS OF BULK AT MOST 1048576: true; the input reads as it did. -/
def fnAlpha16SetOutsideUptoRow : OpenClaim := { program := "ytcflhlcbajfiaaa", sum := "8e93f55af36b56c228448e5429baa3fc6c6ee6bcaf6c5c92555c0a4423b9b986", func := "lib-sheetfilm/laws.FnAlpha16SetOutside", spec := "fnAlpha16SetOutside", apart := false, narrowed := true }
def FnAlpha16SetOutsideUptoSaid : Prop := fnAlpha16SetOutsideUptoRow.holds Try.pinned (OpenSpec.upto fnAlpha16SetOutsideSpec)

/-- 'laws.FnAlpha16Set', WHERE WHAT IT READS IS OF BULK AT MOST 1048576: true; the input reads as it did. -/
def fnAlpha16SetUptoRow : OpenClaim := { program := "ytcflhlcbajfiaaa", sum := "8e93f55af36b56c228448e5429baa3fc6c6ee6bcaf6c5c92555c0a4423b9b986", func := "lib-sheetfilm/laws.FnAlpha16Set", spec := "fnAlpha16Set", apart := false, narrowed := true }
def FnAlpha16SetUptoSaid : Prop := fnAlpha16SetUptoRow.holds Try.pinned (OpenSpec.upto fnAlpha16SetSpec)

/-- 'laws.FnAlpha16New', WHERE WHAT IT READS IS OF BULK AT MOST 1048576: true; the input reads as it did. -/
def fnAlpha16NewUptoRow : OpenClaim := { program := "ytcflhlcbajfiaaa", sum := "8e93f55af36b56c228448e5429baa3fc6c6ee6bcaf6c5c92555c0a4423b9b986", func := "lib-sheetfilm/laws.FnAlpha16New", spec := "fnAlpha16New", apart := false, narrowed := true }
def FnAlpha16NewUptoSaid : Prop := fnAlpha16NewUptoRow.holds Try.pinned (OpenSpec.upto fnAlpha16NewSpec)

/-- 'laws.FnAlpha16NewBlank', WHERE WHAT IT READS IS OF BULK AT MOST 1048576: true; the input reads as it did. -/
def fnAlpha16NewBlankUptoRow : OpenClaim := { program := "ytcflhlcbajfiaaa", sum := "8e93f55af36b56c228448e5429baa3fc6c6ee6bcaf6c5c92555c0a4423b9b986", func := "lib-sheetfilm/laws.FnAlpha16NewBlank", spec := "fnAlpha16NewBlank", unfollowed := true, recurses := true, apart := false, narrowed := true }
def FnAlpha16NewBlankUptoSaid : Prop := fnAlpha16NewBlankUptoRow.holds Try.pinned (OpenSpec.upto fnAlpha16NewBlankSpec)

/-- 'laws.FnAlpha16Sub', WHERE WHAT IT READS IS OF BULK AT MOST 1048576: true; the input reads as it did. -/
def fnAlpha16SubUptoRow : OpenClaim := { program := "ytcflhlcbajfiaaa", sum := "8e93f55af36b56c228448e5429baa3fc6c6ee6bcaf6c5c92555c0a4423b9b986", func := "lib-sheetfilm/laws.FnAlpha16Sub", spec := "fnAlpha16Sub", apart := false, narrowed := true }
def FnAlpha16SubUptoSaid : Prop := fnAlpha16SubUptoRow.holds Try.pinned (OpenSpec.upto fnAlpha16SubSpec)

/-- 'laws.FnAlpha16SubSub', WHERE WHAT IT READS IS OF BULK AT MOST 1048576: true; the input reads as it did. -/
def fnAlpha16SubSubUptoRow : OpenClaim := { program := "ytcflhlcbajfiaaa", sum := "8e93f55af36b56c228448e5429baa3fc6c6ee6bcaf6c5c92555c0a4423b9b986", func := "lib-sheetfilm/laws.FnAlpha16SubSub", spec := "fnAlpha16SubSub", apart := false, narrowed := true }
def FnAlpha16SubSubUptoSaid : Prop := fnAlpha16SubSubUptoRow.holds Try.pinned (OpenSpec.upto fnAlpha16SubSubSpec)

/-- 'laws.FnAlpha16Run', WHERE WHAT IT READS IS OF BULK AT MOST 1048576: true; the input reads as it did. -/
def fnAlpha16RunUptoRow : OpenClaim := { program := "ytcflhlcbajfiaaa", sum := "8e93f55af36b56c228448e5429baa3fc6c6ee6bcaf6c5c92555c0a4423b9b986", func := "lib-sheetfilm/laws.FnAlpha16Run", spec := "fnAlpha16Run", apart := false, narrowed := true }
def FnAlpha16RunUptoSaid : Prop := fnAlpha16RunUptoRow.holds Try.pinned (OpenSpec.upto fnAlpha16RunSpec)

/-- 'laws.FnAlpha16AtOutside', WHERE WHAT IT READS IS OF BULK AT MOST 1048576: true; the input reads as it did. -/
def fnAlpha16AtOutsideUptoRow : OpenClaim := { program := "ytcflhlcbajfiaaa", sum := "8e93f55af36b56c228448e5429baa3fc6c6ee6bcaf6c5c92555c0a4423b9b986", func := "lib-sheetfilm/laws.FnAlpha16AtOutside", spec := "fnAlpha16AtOutside", inPlace := ["internal/bytealg.MakeNoZero"], apart := false, narrowed := true }
def FnAlpha16AtOutsideUptoSaid : Prop := fnAlpha16AtOutsideUptoRow.holds Try.pinned (OpenSpec.upto fnAlpha16AtOutsideSpec)

/-- 'laws.FnAlpha16SubShares', WHERE WHAT IT READS IS OF BULK AT MOST 1048576: true; the input reads as it did. -/
def fnAlpha16SubSharesUptoRow : OpenClaim := { program := "ytcflhlcbajfiaaa", sum := "8e93f55af36b56c228448e5429baa3fc6c6ee6bcaf6c5c92555c0a4423b9b986", func := "lib-sheetfilm/laws.FnAlpha16SubShares", spec := "fnAlpha16SubShares", apart := false, narrowed := true }
def FnAlpha16SubSharesUptoSaid : Prop := fnAlpha16SubSharesUptoRow.holds Try.pinned (OpenSpec.upto fnAlpha16SubSharesSpec)

end Rows
end Go.Proofs.Ytcflhlcbajfiaaa
