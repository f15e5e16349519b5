/-
  No cell of these rows narrows 'for every input' (looked for: loops, veiled, ifaces, maps, wideKeys, modest, calm, conditions, laid).
  DERIVED. THE GIVEN ROWS OF THIS SEAT. 13 by the template 'for every input the law returns true; each argument reads behind the call as it read before'; 0 by the template 'total and deterministic' (their statements: YtmhmahdojcajpaaTotals.lean).
  GIVEN WITH THE SEED: the statements are not yours to turn. If you find one false, say at which input.
  Laid BY PROGRAM, IN A SANDBOX (cutbox-rows.mjs): the forced cells as the released guide's own fill.sh prints them over the translation e05088792813a991… (all of the seat's roots in one cut). By AI agents, Wed Nov 11 2026. No macro, syntax, notation, axiom, sorry.
-/
import Derived.Test.YtmhmahdojcajpaaChecked
import GoSem.Claim
import GoSem.ClaimJoined
import GoSem.ClaimMapViews
import Derived.JoinedTies
import Derived.KernelRfl
namespace Go.Proofs.Ytmhmahdojcajpaa
/- THE CELL 'sum', in the pinned program and in every row, IS THE sha256 OF THE DUMP (.gsa) THAT YtmhmahdojcajpaaProg.lean LOADS. Nothing in Lean hashes anything: it is a label: what it is worth is what the hold of that sum in a sandbox is worth. -/
noncomputable def Try.pinned : Pinned := { name := "ytmhmahdojcajpaa", sum := "e05088792813a9917d0fcdf4a543efacfe770c9be4ebbb4eafdae90db82f6bd8", checked := Try.checked }
namespace Rows
def none {H : Type} : Left H := { results := [], args := [] }

/-- 'laws.FnGray16Offset': WHATEVER THE INPUT: true; the input reads as it did. -/
def fnGray16OffsetSpec : ChangeSpec := { name := "fnGray16Offset", fn := fun _ => fun
  | [d1, d2, d3] => { results := [.lit (.bool true)], args := [d1, d2, d3] }
  | _ => none }
def fnGray16OffsetRow : OpenClaim := { program := "ytmhmahdojcajpaa", sum := "e05088792813a9917d0fcdf4a543efacfe770c9be4ebbb4eafdae90db82f6bd8", func := "lib-sheetfilm/laws.FnGray16Offset", spec := "fnGray16Offset", apart := false }
def FnGray16OffsetSaid : Prop := fnGray16OffsetRow.holds Try.pinned (OpenSpec.ofChange fnGray16OffsetSpec)

/-- ITS FALSE NEIGHBOUR: 'it returns false'. Refute it at one input. -/
def fnGray16OffsetWrong : ChangeSpec := { name := "fnGray16Offset", fn := fun _ => fun
  | [d1, d2, d3] => { results := [.lit (.bool false)], args := [d1, d2, d3] }
  | _ => none }
def FnGray16OffsetWrongFalsely : Prop := fnGray16OffsetRow.holds Try.pinned (OpenSpec.ofChange fnGray16OffsetWrong)

/-- 'laws.FnGray16OffsetAnywhere': WHATEVER THE INPUT: true; the input reads as it did. -/
def fnGray16OffsetAnywhereSpec : ChangeSpec := { name := "fnGray16OffsetAnywhere", fn := fun _ => fun
  | [d1, d2, d3] => { results := [.lit (.bool true)], args := [d1, d2, d3] }
  | _ => none }
def fnGray16OffsetAnywhereRow : OpenClaim := { program := "ytmhmahdojcajpaa", sum := "e05088792813a9917d0fcdf4a543efacfe770c9be4ebbb4eafdae90db82f6bd8", func := "lib-sheetfilm/laws.FnGray16OffsetAnywhere", spec := "fnGray16OffsetAnywhere", apart := false }
def FnGray16OffsetAnywhereSaid : Prop := fnGray16OffsetAnywhereRow.holds Try.pinned (OpenSpec.ofChange fnGray16OffsetAnywhereSpec)

/-- ITS FALSE NEIGHBOUR: 'it returns false'. Refute it at one input. -/
def fnGray16OffsetAnywhereWrong : ChangeSpec := { name := "fnGray16OffsetAnywhere", fn := fun _ => fun
  | [d1, d2, d3] => { results := [.lit (.bool false)], args := [d1, d2, d3] }
  | _ => none }
def FnGray16OffsetAnywhereWrongFalsely : Prop := fnGray16OffsetAnywhereRow.holds Try.pinned (OpenSpec.ofChange fnGray16OffsetAnywhereWrong)

/-- 'laws.FnGray16Opaque': WHATEVER THE INPUT: true; the input reads as it did. -/
def fnGray16OpaqueSpec : ChangeSpec := { name := "fnGray16Opaque", fn := fun _ => fun
  | [d] => { results := [.lit (.bool true)], args := [d] }
  | _ => none }
def fnGray16OpaqueRow : OpenClaim := { program := "ytmhmahdojcajpaa", sum := "e05088792813a9917d0fcdf4a543efacfe770c9be4ebbb4eafdae90db82f6bd8", func := "lib-sheetfilm/laws.FnGray16Opaque", spec := "fnGray16Opaque", apart := false }
def FnGray16OpaqueSaid : Prop := fnGray16OpaqueRow.holds Try.pinned (OpenSpec.ofChange fnGray16OpaqueSpec)

/-- ITS FALSE NEIGHBOUR: 'it returns false'. Refute it at one input. -/
def fnGray16OpaqueWrong : ChangeSpec := { name := "fnGray16Opaque", fn := fun _ => fun
  | [d] => { results := [.lit (.bool false)], args := [d] }
  | _ => none }
def FnGray16OpaqueWrongFalsely : Prop := fnGray16OpaqueRow.holds Try.pinned (OpenSpec.ofChange fnGray16OpaqueWrong)

/-- 'laws.FnGray16At': WHATEVER THE INPUT: true; the input reads as it did. -/
def fnGray16AtSpec : ChangeSpec := { name := "fnGray16At", fn := fun _ => fun
  | [d1, d2, d3] => { results := [.lit (.bool true)], args := [d1, d2, d3] }
  | _ => none }
def fnGray16AtRow : OpenClaim := { program := "ytmhmahdojcajpaa", sum := "e05088792813a9917d0fcdf4a543efacfe770c9be4ebbb4eafdae90db82f6bd8", func := "lib-sheetfilm/laws.FnGray16At", spec := "fnGray16At", apart := false }
def FnGray16AtSaid : Prop := fnGray16AtRow.holds Try.pinned (OpenSpec.ofChange fnGray16AtSpec)

/-- ITS FALSE NEIGHBOUR: 'it returns false'. Refute it at one input. -/
def fnGray16AtWrong : ChangeSpec := { name := "fnGray16At", fn := fun _ => fun
  | [d1, d2, d3] => { results := [.lit (.bool false)], args := [d1, d2, d3] }
  | _ => none }
def FnGray16AtWrongFalsely : Prop := fnGray16AtRow.holds Try.pinned (OpenSpec.ofChange fnGray16AtWrong)

/-- 'laws.FnGray16SetOutside': WHATEVER THE INPUT: true; the input reads as it did. -/
def fnGray16SetOutsideSpec : ChangeSpec := { name := "fnGray16SetOutside", fn := fun _ => fun
  | [d1, d2, d3, d4] => { results := [.lit (.bool true)], args := [d1, d2, d3, d4] }
  | _ => none }
def fnGray16SetOutsideRow : OpenClaim := { program := "ytmhmahdojcajpaa", sum := "e05088792813a9917d0fcdf4a543efacfe770c9be4ebbb4eafdae90db82f6bd8", func := "lib-sheetfilm/laws.FnGray16SetOutside", spec := "fnGray16SetOutside", apart := false }
def FnGray16SetOutsideSaid : Prop := fnGray16SetOutsideRow.holds Try.pinned (OpenSpec.ofChange fnGray16SetOutsideSpec)

/-- ITS FALSE NEIGHBOUR: 'it returns false'. Refute it at one input. -/
def fnGray16SetOutsideWrong : ChangeSpec := { name := "fnGray16SetOutside", fn := fun _ => fun
  | [d1, d2, d3, d4] => { results := [.lit (.bool false)], args := [d1, d2, d3, d4] }
  | _ => none }
def FnGray16SetOutsideWrongFalsely : Prop := fnGray16SetOutsideRow.holds Try.pinned (OpenSpec.ofChange fnGray16SetOutsideWrong)

/-- 'laws.FnGray16Set': WHATEVER THE INPUT: true; the input reads as it did. -/
def fnGray16SetSpec : ChangeSpec := { name := "fnGray16Set", fn := fun _ => fun
  | [d1, d2, d3, d4] => { results := [.lit (.bool true)], args := [d1, d2, d3, d4] }
  | _ => none }
def fnGray16SetRow : OpenClaim := { program := "ytmhmahdojcajpaa", sum := "e05088792813a9917d0fcdf4a543efacfe770c9be4ebbb4eafdae90db82f6bd8", func := "lib-sheetfilm/laws.FnGray16Set", spec := "fnGray16Set", apart := false }
def FnGray16SetSaid : Prop := fnGray16SetRow.holds Try.pinned (OpenSpec.ofChange fnGray16SetSpec)

/-- ITS FALSE NEIGHBOUR: 'it returns false'. Refute it at one input. -/
def fnGray16SetWrong : ChangeSpec := { name := "fnGray16Set", fn := fun _ => fun
  | [d1, d2, d3, d4] => { results := [.lit (.bool false)], args := [d1, d2, d3, d4] }
  | _ => none }
def FnGray16SetWrongFalsely : Prop := fnGray16SetRow.holds Try.pinned (OpenSpec.ofChange fnGray16SetWrong)

/-- 'laws.FnGray16New': WHATEVER THE INPUT: true; the input reads as it did. -/
def fnGray16NewSpec : ChangeSpec := { name := "fnGray16New", fn := fun _ => fun
  | [d] => { results := [.lit (.bool true)], args := [d] }
  | _ => none }
def fnGray16NewRow : OpenClaim := { program := "ytmhmahdojcajpaa", sum := "e05088792813a9917d0fcdf4a543efacfe770c9be4ebbb4eafdae90db82f6bd8", func := "lib-sheetfilm/laws.FnGray16New", spec := "fnGray16New", apart := false }
def FnGray16NewSaid : Prop := fnGray16NewRow.holds Try.pinned (OpenSpec.ofChange fnGray16NewSpec)

/-- ITS FALSE NEIGHBOUR: 'it returns false'. Refute it at one input. -/
def fnGray16NewWrong : ChangeSpec := { name := "fnGray16New", fn := fun _ => fun
  | [d] => { results := [.lit (.bool false)], args := [d] }
  | _ => none }
def FnGray16NewWrongFalsely : Prop := fnGray16NewRow.holds Try.pinned (OpenSpec.ofChange fnGray16NewWrong)

/-- 'laws.FnGray16NewBlank': WHATEVER THE INPUT: true; the input reads as it did. -/
def fnGray16NewBlankSpec : ChangeSpec := { name := "fnGray16NewBlank", fn := fun _ => fun
  | [d] => { results := [.lit (.bool true)], args := [d] }
  | _ => none }
def fnGray16NewBlankRow : OpenClaim := { program := "ytmhmahdojcajpaa", sum := "e05088792813a9917d0fcdf4a543efacfe770c9be4ebbb4eafdae90db82f6bd8", func := "lib-sheetfilm/laws.FnGray16NewBlank", spec := "fnGray16NewBlank", unfollowed := true, recurses := true, apart := false }
def FnGray16NewBlankSaid : Prop := fnGray16NewBlankRow.holds Try.pinned (OpenSpec.ofChange fnGray16NewBlankSpec)

/-- ITS FALSE NEIGHBOUR: 'it returns false'. Refute it at one input. -/
def fnGray16NewBlankWrong : ChangeSpec := { name := "fnGray16NewBlank", fn := fun _ => fun
  | [d] => { results := [.lit (.bool false)], args := [d] }
  | _ => none }
def FnGray16NewBlankWrongFalsely : Prop := fnGray16NewBlankRow.holds Try.pinned (OpenSpec.ofChange fnGray16NewBlankWrong)

/-- 'laws.FnGray16Sub': WHATEVER THE INPUT: true; the input reads as it did. -/
def fnGray16SubSpec : ChangeSpec := { name := "fnGray16Sub", fn := fun _ => fun
  | [d1, d2, d3, d4] => { results := [.lit (.bool true)], args := [d1, d2, d3, d4] }
  | _ => none }
def fnGray16SubRow : OpenClaim := { program := "ytmhmahdojcajpaa", sum := "e05088792813a9917d0fcdf4a543efacfe770c9be4ebbb4eafdae90db82f6bd8", func := "lib-sheetfilm/laws.FnGray16Sub", spec := "fnGray16Sub", apart := false }
def FnGray16SubSaid : Prop := fnGray16SubRow.holds Try.pinned (OpenSpec.ofChange fnGray16SubSpec)

/-- ITS FALSE NEIGHBOUR: 'it returns false'. Refute it at one input. -/
def fnGray16SubWrong : ChangeSpec := { name := "fnGray16Sub", fn := fun _ => fun
  | [d1, d2, d3, d4] => { results := [.lit (.bool false)], args := [d1, d2, d3, d4] }
  | _ => none }
def FnGray16SubWrongFalsely : Prop := fnGray16SubRow.holds Try.pinned (OpenSpec.ofChange fnGray16SubWrong)

/-- 'laws.FnGray16SubSub': WHATEVER THE INPUT: true; the input reads as it did. -/
def fnGray16SubSubSpec : ChangeSpec := { name := "fnGray16SubSub", fn := fun _ => fun
  | [d1, d2, d3, d4, d5] => { results := [.lit (.bool true)], args := [d1, d2, d3, d4, d5] }
  | _ => none }
def fnGray16SubSubRow : OpenClaim := { program := "ytmhmahdojcajpaa", sum := "e05088792813a9917d0fcdf4a543efacfe770c9be4ebbb4eafdae90db82f6bd8", func := "lib-sheetfilm/laws.FnGray16SubSub", spec := "fnGray16SubSub", apart := false }
def FnGray16SubSubSaid : Prop := fnGray16SubSubRow.holds Try.pinned (OpenSpec.ofChange fnGray16SubSubSpec)

/-- ITS FALSE NEIGHBOUR: 'it returns false'. Refute it at one input. -/
def fnGray16SubSubWrong : ChangeSpec := { name := "fnGray16SubSub", fn := fun _ => fun
  | [d1, d2, d3, d4, d5] => { results := [.lit (.bool false)], args := [d1, d2, d3, d4, d5] }
  | _ => none }
def FnGray16SubSubWrongFalsely : Prop := fnGray16SubSubRow.holds Try.pinned (OpenSpec.ofChange fnGray16SubSubWrong)

/-- 'laws.FnGray16Run': WHATEVER THE INPUT: true; the input reads as it did. -/
def fnGray16RunSpec : ChangeSpec := { name := "fnGray16Run", fn := fun _ => fun
  | [d1, d2] => { results := [.lit (.bool true)], args := [d1, d2] }
  | _ => none }
def fnGray16RunRow : OpenClaim := { program := "ytmhmahdojcajpaa", sum := "e05088792813a9917d0fcdf4a543efacfe770c9be4ebbb4eafdae90db82f6bd8", func := "lib-sheetfilm/laws.FnGray16Run", spec := "fnGray16Run", apart := false }
def FnGray16RunSaid : Prop := fnGray16RunRow.holds Try.pinned (OpenSpec.ofChange fnGray16RunSpec)

/-- ITS FALSE NEIGHBOUR: 'it returns false'. Refute it at one input. -/
def fnGray16RunWrong : ChangeSpec := { name := "fnGray16Run", fn := fun _ => fun
  | [d1, d2] => { results := [.lit (.bool false)], args := [d1, d2] }
  | _ => none }
def FnGray16RunWrongFalsely : Prop := fnGray16RunRow.holds Try.pinned (OpenSpec.ofChange fnGray16RunWrong)

/-- 'laws.FnGray16AtOutside': WHATEVER THE INPUT: true; the input reads as it did. -/
def fnGray16AtOutsideSpec : ChangeSpec := { name := "fnGray16AtOutside", fn := fun _ => fun
  | [d1, d2, d3] => { results := [.lit (.bool true)], args := [d1, d2, d3] }
  | _ => none }
def fnGray16AtOutsideRow : OpenClaim := { program := "ytmhmahdojcajpaa", sum := "e05088792813a9917d0fcdf4a543efacfe770c9be4ebbb4eafdae90db82f6bd8", func := "lib-sheetfilm/laws.FnGray16AtOutside", spec := "fnGray16AtOutside", inPlace := ["internal/bytealg.MakeNoZero"], apart := false }
def FnGray16AtOutsideSaid : Prop := fnGray16AtOutsideRow.holds Try.pinned (OpenSpec.ofChange fnGray16AtOutsideSpec)

/-- ITS FALSE NEIGHBOUR: 'it returns false'. Refute it at one input. -/
def fnGray16AtOutsideWrong : ChangeSpec := { name := "fnGray16AtOutside", fn := fun _ => fun
  | [d1, d2, d3] => { results := [.lit (.bool false)], args := [d1, d2, d3] }
  | _ => none }
def FnGray16AtOutsideWrongFalsely : Prop := fnGray16AtOutsideRow.holds Try.pinned (OpenSpec.ofChange fnGray16AtOutsideWrong)

/-- 'laws.FnGray16SubShares': WHATEVER THE INPUT: true; the input reads as it did. -/
def fnGray16SubSharesSpec : ChangeSpec := { name := "fnGray16SubShares", fn := fun _ => fun
  | [d1, d2, d3, d4, d5] => { results := [.lit (.bool true)], args := [d1, d2, d3, d4, d5] }
  | _ => none }
def fnGray16SubSharesRow : OpenClaim := { program := "ytmhmahdojcajpaa", sum := "e05088792813a9917d0fcdf4a543efacfe770c9be4ebbb4eafdae90db82f6bd8", func := "lib-sheetfilm/laws.FnGray16SubShares", spec := "fnGray16SubShares", apart := false }
def FnGray16SubSharesSaid : Prop := fnGray16SubSharesRow.holds Try.pinned (OpenSpec.ofChange fnGray16SubSharesSpec)

/-- ITS FALSE NEIGHBOUR: 'it returns false'. Refute it at one input. -/
def fnGray16SubSharesWrong : ChangeSpec := { name := "fnGray16SubShares", fn := fun _ => fun
  | [d1, d2, d3, d4, d5] => { results := [.lit (.bool false)], args := [d1, d2, d3, d4, d5] }
  | _ => none }
def FnGray16SubSharesWrongFalsely : Prop := fnGray16SubSharesRow.holds Try.pinned (OpenSpec.ofChange fnGray16SubSharesWrong)

/- THE SECOND FORM. 'bulk': how many values and letters a reading holds, each counted each time it is reached (what is shared counts as often as it is met; a slice's spare places count too). A statement '..UptoSaid' is the law's where the arguments, and the package variables that the reading takes, are together of bulk at most 1048576: NARROWER than '..Said'. Prove '..Said' where nothing that the law and all that it calls make is longer than what came in: it says more and counts as full. Else prove '..UptoSaid'. A law counts once. -/
mutual
def uptoBulk {H : Type} : DataW H → Nat
  | .lit (.string bytes) => bytes.length + 1
  | .lit _ => 1
  | .nil => 1
  | .ptr d => uptoBulk d + 1
  | .slice elems spare => uptoBulkAll elems + uptoBulkAll spare + 1
  | .agg parts => uptoBulkAll parts + 1
  | .iface _ d => uptoBulk d + 1
  | .map entries => uptoBulkEntries entries + 1
  | .held _ => 1
def uptoBulkAll {H : Type} : List (DataW H) → Nat
  | [] => 0
  | d :: r => uptoBulk d + uptoBulkAll r
def uptoBulkEntries {H : Type} : List (Lit × DataW H) → Nat
  | [] => 0
  | x :: r => uptoBulkEntry x + uptoBulkEntries r
def uptoBulkEntry {H : Type} : Lit × DataW H → Nat
  | (.string bytes, d) => bytes.length + uptoBulk d + 1
  | (_, d) => uptoBulk d + 1
 end
def uptoSmall : (H : Type) → List (DataW H) → Bool := fun _ ds => decide (uptoBulkAll ds ≤ 1048576)
def OpenSpec.upto (s : _root_.Go.ChangeSpec) : _root_.Go.OpenSpec := { _root_.Go.OpenSpec.ofChange s with cond := some uptoSmall }

/-- 'laws.FnGray16Offset', WHERE WHAT IT READS IS OF BULK AT MOST 1048576: true; the input reads as it did. -/
def fnGray16OffsetUptoRow : OpenClaim := { program := "ytmhmahdojcajpaa", sum := "e05088792813a9917d0fcdf4a543efacfe770c9be4ebbb4eafdae90db82f6bd8", func := "lib-sheetfilm/laws.FnGray16Offset", spec := "fnGray16Offset", apart := false, narrowed := true }
def FnGray16OffsetUptoSaid : Prop := fnGray16OffsetUptoRow.holds Try.pinned (OpenSpec.upto fnGray16OffsetSpec)

/-- 'laws.FnGray16OffsetAnywhere', WHERE WHAT IT READS IS OF BULK AT MOST 1048576: true; the input reads as it did. -/
def fnGray16OffsetAnywhereUptoRow : OpenClaim := { program := "ytmhmahdojcajpaa", sum := "e05088792813a9917d0fcdf4a543efacfe770c9be4ebbb4eafdae90db82f6bd8", func := "lib-sheetfilm/laws.FnGray16OffsetAnywhere", spec := "fnGray16OffsetAnywhere", apart := false, narrowed := true }
def FnGray16OffsetAnywhereUptoSaid : Prop := fnGray16OffsetAnywhereUptoRow.holds Try.pinned (OpenSpec.upto fnGray16OffsetAnywhereSpec)

/-- 'laws.FnGray16Opaque', WHERE WHAT IT READS IS OF BULK AT MOST 1048576: true; the input reads as it did. -/
def fnGray16OpaqueUptoRow : OpenClaim := { program := "ytmhmahdojcajpaa", sum := "e05088792813a9917d0fcdf4a543efacfe770c9be4ebbb4eafdae90db82f6bd8", func := "lib-sheetfilm/laws.FnGray16Opaque", spec := "fnGray16Opaque", apart := false, narrowed := true }
def FnGray16OpaqueUptoSaid : Prop := fnGray16OpaqueUptoRow.holds Try.pinned (OpenSpec.upto fnGray16OpaqueSpec)

/-- 'laws.FnGray16At', WHERE WHAT IT READS IS OF BULK AT MOST 1048576: true; the input reads as it did. -/
def fnGray16AtUptoRow : OpenClaim := { program := "ytmhmahdojcajpaa", sum := "e05088792813a9917d0fcdf4a543efacfe770c9be4ebbb4eafdae90db82f6bd8", func := "lib-sheetfilm/laws.FnGray16At", spec := "fnGray16At", apart := false, narrowed := true }
def FnGray16AtUptoSaid : Prop := fnGray16AtUptoRow.holds Try.pinned (OpenSpec.upto fnGray16AtSpec)

/-- 'laws.FnGray16SetOutside', WHERE WHAT IT READS IS OF BULK AT MOST 1048576: true; the input reads as it did. -/
def fnGray16SetOutsideUptoRow : OpenClaim := { program := "ytmhmahdojcajpaa", sum := "e05088792813a9917d0fcdf4a543efacfe770c9be4ebbb4eafdae90db82f6bd8", func := "lib-sheetfilm/laws.FnGray16SetOutside", spec := "fnGray16SetOutside", apart := false, narrowed := true }
def FnGray16SetOutsideUptoSaid : Prop := fnGray16SetOutsideUptoRow.holds Try.pinned (OpenSpec.upto fnGray16SetOutsideSpec)

/-- 'laws.FnGray16Set', WHERE WHAT IT READS IS OF BULK AT MOST 1048576: true; the input reads as it did. -/
def fnGray16SetUptoRow : OpenClaim := { program := "ytmhmahdojcajpaa", sum := "e05088792813a9917d0fcdf4a543efacfe770c9be4ebbb4eafdae90db82f6bd8", func := "lib-sheetfilm/laws.FnGray16Set", spec := "fnGray16Set", apart := false, narrowed := true }
def FnGray16SetUptoSaid : Prop := fnGray16SetUptoRow.holds Try.pinned (OpenSpec.upto fnGray16SetSpec)

/-- 'laws.FnGray16New', WHERE WHAT IT READS IS OF BULK AT MOST 1048576: true; the input reads as it did. -/
def fnGray16NewUptoRow : OpenClaim := { program := "ytmhmahdojcajpaa", sum := "e05088792813a9917d0fcdf4a543efacfe770c9be4ebbb4eafdae90db82f6bd8", func := "lib-sheetfilm/laws.FnGray16New", spec := "fnGray16New", apart := false, narrowed := true }
def FnGray16NewUptoSaid : Prop := fnGray16NewUptoRow.holds Try.pinned (OpenSpec.upto fnGray16NewSpec)

/-- 'laws.FnGray16NewBlank', WHERE WHAT IT READS IS OF BULK AT MOST 1048576: true; the input reads as it did. -/
def fnGray16NewBlankUptoRow : OpenClaim := { program := "ytmhmahdojcajpaa", sum := "e05088792813a9917d0fcdf4a543efacfe770c9be4ebbb4eafdae90db82f6bd8", func := "lib-sheetfilm/laws.FnGray16NewBlank", spec := "fnGray16NewBlank", unfollowed := true, recurses := true, apart := false, narrowed := true }
def FnGray16NewBlankUptoSaid : Prop := fnGray16NewBlankUptoRow.holds Try.pinned (OpenSpec.upto fnGray16NewBlankSpec)

/-- 'laws.FnGray16Sub', WHERE WHAT IT READS IS OF BULK AT MOST 1048576: true; the input reads as it did. -/
def fnGray16SubUptoRow : OpenClaim := { program := "ytmhmahdojcajpaa", sum := "e05088792813a9917d0fcdf4a543efacfe770c9be4ebbb4eafdae90db82f6bd8", func := "lib-sheetfilm/laws.FnGray16Sub", spec := "fnGray16Sub", apart := false, narrowed := true }
def FnGray16SubUptoSaid : Prop := fnGray16SubUptoRow.holds Try.pinned (OpenSpec.upto fnGray16SubSpec)

/-- 'laws.FnGray16SubSub', WHERE WHAT IT READS IS OF BULK AT MOST 1048576: true; the input reads as it did. -/
def fnGray16SubSubUptoRow : OpenClaim := { program := "ytmhmahdojcajpaa", sum := "e05088792813a9917d0fcdf4a543efacfe770c9be4ebbb4eafdae90db82f6bd8", func := "lib-sheetfilm/laws.FnGray16SubSub", spec := "fnGray16SubSub", apart := false, narrowed := true }
def FnGray16SubSubUptoSaid : Prop := fnGray16SubSubUptoRow.holds Try.pinned (OpenSpec.upto fnGray16SubSubSpec)

/-- 'laws.FnGray16Run', WHERE WHAT IT READS IS OF BULK AT MOST 1048576: true; the input reads as it did. -/
def fnGray16RunUptoRow : OpenClaim := { program := "ytmhmahdojcajpaa", sum := "e05088792813a9917d0fcdf4a543efacfe770c9be4ebbb4eafdae90db82f6bd8", func := "lib-sheetfilm/laws.FnGray16Run", spec := "fnGray16Run", apart := false, narrowed := true }
def FnGray16RunUptoSaid : Prop := fnGray16RunUptoRow.holds Try.pinned (OpenSpec.upto fnGray16RunSpec)

/-- 'laws.FnGray16AtOutside', WHERE WHAT IT READS IS OF BULK AT MOST 1048576: true; the input reads as it did. -/
def fnGray16AtOutsideUptoRow : OpenClaim := { program := "ytmhmahdojcajpaa", sum := "e05088792813a9917d0fcdf4a543efacfe770c9be4ebbb4eafdae90db82f6bd8", func := "lib-sheetfilm/laws.FnGray16AtOutside", spec := "fnGray16AtOutside", inPlace := ["internal/bytealg.MakeNoZero"], apart := false, narrowed := true }
def FnGray16AtOutsideUptoSaid : Prop := fnGray16AtOutsideUptoRow.holds Try.pinned (OpenSpec.upto fnGray16AtOutsideSpec)

/-- 'laws.FnGray16SubShares', WHERE WHAT IT READS IS OF BULK AT MOST 1048576: true; the input reads as it did. -/
def fnGray16SubSharesUptoRow : OpenClaim := { program := "ytmhmahdojcajpaa", sum := "e05088792813a9917d0fcdf4a543efacfe770c9be4ebbb4eafdae90db82f6bd8", func := "lib-sheetfilm/laws.FnGray16SubShares", spec := "fnGray16SubShares", apart := false, narrowed := true }
def FnGray16SubSharesUptoSaid : Prop := fnGray16SubSharesUptoRow.holds Try.pinned (OpenSpec.upto fnGray16SubSharesSpec)

end Rows
end Go.Proofs.Ytmhmahdojcajpaa
