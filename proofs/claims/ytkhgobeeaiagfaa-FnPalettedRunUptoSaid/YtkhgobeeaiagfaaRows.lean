/-
  No cell of these rows narrows 'for every input' (looked for: loops, veiled, ifaces, maps, wideKeys, modest, calm, conditions, laid).
  DERIVED. THE GIVEN ROWS OF THIS SEAT. 12 by the template 'for every input the law returns true; each argument reads behind the call as it read before'; 0 by the template 'total and deterministic' (their statements: YtkhgobeeaiagfaaTotals.lean).
  GIVEN WITH THE SEED: the statements are not yours to turn. If you find one false, say at which input.
  Laid BY PROGRAM, IN A SANDBOX (cutbox-rows.mjs): the forced cells as the released guide's own fill.sh prints them over the translation 73aa1b4f5b79004e… (all of the seat's roots in one cut). By AI agents, Wed Nov 11 2026. No macro, syntax, notation, axiom, sorry.
-/
import Derived.Test.YtkhgobeeaiagfaaChecked
import GoSem.Claim
import GoSem.ClaimJoined
import GoSem.ClaimMapViews
import Derived.JoinedTies
import Derived.KernelRfl
namespace Go.Proofs.Ytkhgobeeaiagfaa
/- THE CELL 'sum', in the pinned program and in every row, IS THE sha256 OF THE DUMP (.gsa) THAT YtkhgobeeaiagfaaProg.lean LOADS. Nothing in Lean hashes anything: it is a label: what it is worth is what the hold of that sum in a sandbox is worth. -/
noncomputable def Try.pinned : Pinned := { name := "ytkhgobeeaiagfaa", sum := "73aa1b4f5b79004edffddfa6f70876fb7069845fa978ca4e9974dff2d9d71948", checked := Try.checked }
namespace Rows
def none {H : Type} : Left H := { results := [], args := [] }

/-- 'laws.FnPalettedOffset': WHATEVER THE INPUT: true; the input reads as it did. -/
def fnPalettedOffsetSpec : ChangeSpec := { name := "fnPalettedOffset", fn := fun _ => fun
  | [d1, d2, d3] => { results := [.lit (.bool true)], args := [d1, d2, d3] }
  | _ => none }
def fnPalettedOffsetRow : OpenClaim := { program := "ytkhgobeeaiagfaa", sum := "73aa1b4f5b79004edffddfa6f70876fb7069845fa978ca4e9974dff2d9d71948", func := "lib-sheetfilm/laws.FnPalettedOffset", spec := "fnPalettedOffset", apart := false }
def FnPalettedOffsetSaid : Prop := fnPalettedOffsetRow.holds Try.pinned (OpenSpec.ofChange fnPalettedOffsetSpec)

/-- ITS FALSE NEIGHBOUR: 'it returns false'. Refute it at one input. -/
def fnPalettedOffsetWrong : ChangeSpec := { name := "fnPalettedOffset", fn := fun _ => fun
  | [d1, d2, d3] => { results := [.lit (.bool false)], args := [d1, d2, d3] }
  | _ => none }
def FnPalettedOffsetWrongFalsely : Prop := fnPalettedOffsetRow.holds Try.pinned (OpenSpec.ofChange fnPalettedOffsetWrong)

/-- 'laws.FnPalettedOffsetAnywhere': WHATEVER THE INPUT: true; the input reads as it did. -/
def fnPalettedOffsetAnywhereSpec : ChangeSpec := { name := "fnPalettedOffsetAnywhere", fn := fun _ => fun
  | [d1, d2, d3] => { results := [.lit (.bool true)], args := [d1, d2, d3] }
  | _ => none }
def fnPalettedOffsetAnywhereRow : OpenClaim := { program := "ytkhgobeeaiagfaa", sum := "73aa1b4f5b79004edffddfa6f70876fb7069845fa978ca4e9974dff2d9d71948", func := "lib-sheetfilm/laws.FnPalettedOffsetAnywhere", spec := "fnPalettedOffsetAnywhere", apart := false }
def FnPalettedOffsetAnywhereSaid : Prop := fnPalettedOffsetAnywhereRow.holds Try.pinned (OpenSpec.ofChange fnPalettedOffsetAnywhereSpec)

/-- ITS FALSE NEIGHBOUR: 'it returns false'. Refute it at one input. -/
def fnPalettedOffsetAnywhereWrong : ChangeSpec := { name := "fnPalettedOffsetAnywhere", fn := fun _ => fun
  | [d1, d2, d3] => { results := [.lit (.bool false)], args := [d1, d2, d3] }
  | _ => none }
def FnPalettedOffsetAnywhereWrongFalsely : Prop := fnPalettedOffsetAnywhereRow.holds Try.pinned (OpenSpec.ofChange fnPalettedOffsetAnywhereWrong)

/-- 'laws.FnPalettedIndex': WHATEVER THE INPUT: true; the input reads as it did. -/
def fnPalettedIndexSpec : ChangeSpec := { name := "fnPalettedIndex", fn := fun _ => fun
  | [d1, d2, d3] => { results := [.lit (.bool true)], args := [d1, d2, d3] }
  | _ => none }
def fnPalettedIndexRow : OpenClaim := { program := "ytkhgobeeaiagfaa", sum := "73aa1b4f5b79004edffddfa6f70876fb7069845fa978ca4e9974dff2d9d71948", func := "lib-sheetfilm/laws.FnPalettedIndex", spec := "fnPalettedIndex", apart := false }
def FnPalettedIndexSaid : Prop := fnPalettedIndexRow.holds Try.pinned (OpenSpec.ofChange fnPalettedIndexSpec)

/-- ITS FALSE NEIGHBOUR: 'it returns false'. Refute it at one input. -/
def fnPalettedIndexWrong : ChangeSpec := { name := "fnPalettedIndex", fn := fun _ => fun
  | [d1, d2, d3] => { results := [.lit (.bool false)], args := [d1, d2, d3] }
  | _ => none }
def FnPalettedIndexWrongFalsely : Prop := fnPalettedIndexRow.holds Try.pinned (OpenSpec.ofChange fnPalettedIndexWrong)

/-- 'laws.FnPalettedIndexOutside': WHATEVER THE INPUT: true; the input reads as it did. -/
def fnPalettedIndexOutsideSpec : ChangeSpec := { name := "fnPalettedIndexOutside", fn := fun _ => fun
  | [d1, d2, d3] => { results := [.lit (.bool true)], args := [d1, d2, d3] }
  | _ => none }
def fnPalettedIndexOutsideRow : OpenClaim := { program := "ytkhgobeeaiagfaa", sum := "73aa1b4f5b79004edffddfa6f70876fb7069845fa978ca4e9974dff2d9d71948", func := "lib-sheetfilm/laws.FnPalettedIndexOutside", spec := "fnPalettedIndexOutside", apart := false }
def FnPalettedIndexOutsideSaid : Prop := fnPalettedIndexOutsideRow.holds Try.pinned (OpenSpec.ofChange fnPalettedIndexOutsideSpec)

/-- ITS FALSE NEIGHBOUR: 'it returns false'. Refute it at one input. -/
def fnPalettedIndexOutsideWrong : ChangeSpec := { name := "fnPalettedIndexOutside", fn := fun _ => fun
  | [d1, d2, d3] => { results := [.lit (.bool false)], args := [d1, d2, d3] }
  | _ => none }
def FnPalettedIndexOutsideWrongFalsely : Prop := fnPalettedIndexOutsideRow.holds Try.pinned (OpenSpec.ofChange fnPalettedIndexOutsideWrong)

/-- 'laws.FnPalettedOpaque': WHATEVER THE INPUT: true; the input reads as it did. -/
def fnPalettedOpaqueSpec : ChangeSpec := { name := "fnPalettedOpaque", fn := fun _ => fun
  | [d] => { results := [.lit (.bool true)], args := [d] }
  | _ => none }
def fnPalettedOpaqueRow : OpenClaim := { program := "ytkhgobeeaiagfaa", sum := "73aa1b4f5b79004edffddfa6f70876fb7069845fa978ca4e9974dff2d9d71948", func := "lib-sheetfilm/laws.FnPalettedOpaque", spec := "fnPalettedOpaque", unfollowed := true, recurses := true, apart := false }
def FnPalettedOpaqueSaid : Prop := fnPalettedOpaqueRow.holds Try.pinned (OpenSpec.ofChange fnPalettedOpaqueSpec)

/-- ITS FALSE NEIGHBOUR: 'it returns false'. Refute it at one input. -/
def fnPalettedOpaqueWrong : ChangeSpec := { name := "fnPalettedOpaque", fn := fun _ => fun
  | [d] => { results := [.lit (.bool false)], args := [d] }
  | _ => none }
def FnPalettedOpaqueWrongFalsely : Prop := fnPalettedOpaqueRow.holds Try.pinned (OpenSpec.ofChange fnPalettedOpaqueWrong)

/-- 'laws.FnPalettedSetOutside': WHATEVER THE INPUT: true; the input reads as it did. -/
def fnPalettedSetOutsideSpec : ChangeSpec := { name := "fnPalettedSetOutside", fn := fun _ => fun
  | [d1, d2, d3, d4] => { results := [.lit (.bool true)], args := [d1, d2, d3, d4] }
  | _ => none }
def fnPalettedSetOutsideRow : OpenClaim := { program := "ytkhgobeeaiagfaa", sum := "73aa1b4f5b79004edffddfa6f70876fb7069845fa978ca4e9974dff2d9d71948", func := "lib-sheetfilm/laws.FnPalettedSetOutside", spec := "fnPalettedSetOutside", apart := false }
def FnPalettedSetOutsideSaid : Prop := fnPalettedSetOutsideRow.holds Try.pinned (OpenSpec.ofChange fnPalettedSetOutsideSpec)

/-- ITS FALSE NEIGHBOUR: 'it returns false'. Refute it at one input. -/
def fnPalettedSetOutsideWrong : ChangeSpec := { name := "fnPalettedSetOutside", fn := fun _ => fun
  | [d1, d2, d3, d4] => { results := [.lit (.bool false)], args := [d1, d2, d3, d4] }
  | _ => none }
def FnPalettedSetOutsideWrongFalsely : Prop := fnPalettedSetOutsideRow.holds Try.pinned (OpenSpec.ofChange fnPalettedSetOutsideWrong)

/-- 'laws.FnPalettedSet': WHATEVER THE INPUT: true; the input reads as it did. -/
def fnPalettedSetSpec : ChangeSpec := { name := "fnPalettedSet", fn := fun _ => fun
  | [d1, d2, d3, d4] => { results := [.lit (.bool true)], args := [d1, d2, d3, d4] }
  | _ => none }
def fnPalettedSetRow : OpenClaim := { program := "ytkhgobeeaiagfaa", sum := "73aa1b4f5b79004edffddfa6f70876fb7069845fa978ca4e9974dff2d9d71948", func := "lib-sheetfilm/laws.FnPalettedSet", spec := "fnPalettedSet", apart := false }
def FnPalettedSetSaid : Prop := fnPalettedSetRow.holds Try.pinned (OpenSpec.ofChange fnPalettedSetSpec)

/-- ITS FALSE NEIGHBOUR: 'it returns false'. Refute it at one input. -/
def fnPalettedSetWrong : ChangeSpec := { name := "fnPalettedSet", fn := fun _ => fun
  | [d1, d2, d3, d4] => { results := [.lit (.bool false)], args := [d1, d2, d3, d4] }
  | _ => none }
def FnPalettedSetWrongFalsely : Prop := fnPalettedSetRow.holds Try.pinned (OpenSpec.ofChange fnPalettedSetWrong)

/-- 'laws.FnPalettedNew': WHATEVER THE INPUT: true; the input reads as it did. -/
def fnPalettedNewSpec : ChangeSpec := { name := "fnPalettedNew", fn := fun _ => fun
  | [d1, d2] => { results := [.lit (.bool true)], args := [d1, d2] }
  | _ => none }
def fnPalettedNewRow : OpenClaim := { program := "ytkhgobeeaiagfaa", sum := "73aa1b4f5b79004edffddfa6f70876fb7069845fa978ca4e9974dff2d9d71948", func := "lib-sheetfilm/laws.FnPalettedNew", spec := "fnPalettedNew", apart := false }
def FnPalettedNewSaid : Prop := fnPalettedNewRow.holds Try.pinned (OpenSpec.ofChange fnPalettedNewSpec)

/-- ITS FALSE NEIGHBOUR: 'it returns false'. Refute it at one input. -/
def fnPalettedNewWrong : ChangeSpec := { name := "fnPalettedNew", fn := fun _ => fun
  | [d1, d2] => { results := [.lit (.bool false)], args := [d1, d2] }
  | _ => none }
def FnPalettedNewWrongFalsely : Prop := fnPalettedNewRow.holds Try.pinned (OpenSpec.ofChange fnPalettedNewWrong)

/-- 'laws.FnPalettedNewBlank': WHATEVER THE INPUT: true; the input reads as it did. -/
def fnPalettedNewBlankSpec : ChangeSpec := { name := "fnPalettedNewBlank", fn := fun _ => fun
  | [d1, d2] => { results := [.lit (.bool true)], args := [d1, d2] }
  | _ => none }
def fnPalettedNewBlankRow : OpenClaim := { program := "ytkhgobeeaiagfaa", sum := "73aa1b4f5b79004edffddfa6f70876fb7069845fa978ca4e9974dff2d9d71948", func := "lib-sheetfilm/laws.FnPalettedNewBlank", spec := "fnPalettedNewBlank", unfollowed := true, recurses := true, apart := false }
def FnPalettedNewBlankSaid : Prop := fnPalettedNewBlankRow.holds Try.pinned (OpenSpec.ofChange fnPalettedNewBlankSpec)

/-- ITS FALSE NEIGHBOUR: 'it returns false'. Refute it at one input. -/
def fnPalettedNewBlankWrong : ChangeSpec := { name := "fnPalettedNewBlank", fn := fun _ => fun
  | [d1, d2] => { results := [.lit (.bool false)], args := [d1, d2] }
  | _ => none }
def FnPalettedNewBlankWrongFalsely : Prop := fnPalettedNewBlankRow.holds Try.pinned (OpenSpec.ofChange fnPalettedNewBlankWrong)

/-- 'laws.FnPalettedSub': WHATEVER THE INPUT: true; the input reads as it did. -/
def fnPalettedSubSpec : ChangeSpec := { name := "fnPalettedSub", fn := fun _ => fun
  | [d1, d2, d3, d4] => { results := [.lit (.bool true)], args := [d1, d2, d3, d4] }
  | _ => none }
def fnPalettedSubRow : OpenClaim := { program := "ytkhgobeeaiagfaa", sum := "73aa1b4f5b79004edffddfa6f70876fb7069845fa978ca4e9974dff2d9d71948", func := "lib-sheetfilm/laws.FnPalettedSub", spec := "fnPalettedSub", apart := false }
def FnPalettedSubSaid : Prop := fnPalettedSubRow.holds Try.pinned (OpenSpec.ofChange fnPalettedSubSpec)

/-- ITS FALSE NEIGHBOUR: 'it returns false'. Refute it at one input. -/
def fnPalettedSubWrong : ChangeSpec := { name := "fnPalettedSub", fn := fun _ => fun
  | [d1, d2, d3, d4] => { results := [.lit (.bool false)], args := [d1, d2, d3, d4] }
  | _ => none }
def FnPalettedSubWrongFalsely : Prop := fnPalettedSubRow.holds Try.pinned (OpenSpec.ofChange fnPalettedSubWrong)

/-- 'laws.FnPalettedRun': WHATEVER THE INPUT: true; the input reads as it did. -/
def fnPalettedRunSpec : ChangeSpec := { name := "fnPalettedRun", fn := fun _ => fun
  | [d1, d2] => { results := [.lit (.bool true)], args := [d1, d2] }
  | _ => none }
def fnPalettedRunRow : OpenClaim := { program := "ytkhgobeeaiagfaa", sum := "73aa1b4f5b79004edffddfa6f70876fb7069845fa978ca4e9974dff2d9d71948", func := "lib-sheetfilm/laws.FnPalettedRun", spec := "fnPalettedRun", apart := false }
def FnPalettedRunSaid : Prop := fnPalettedRunRow.holds Try.pinned (OpenSpec.ofChange fnPalettedRunSpec)

/-- ITS FALSE NEIGHBOUR: 'it returns false'. Refute it at one input. -/
def fnPalettedRunWrong : ChangeSpec := { name := "fnPalettedRun", fn := fun _ => fun
  | [d1, d2] => { results := [.lit (.bool false)], args := [d1, d2] }
  | _ => none }
def FnPalettedRunWrongFalsely : Prop := fnPalettedRunRow.holds Try.pinned (OpenSpec.ofChange fnPalettedRunWrong)

/-- 'laws.FnPalettedSubShares': WHATEVER THE INPUT: true; the input reads as it did. -/
def fnPalettedSubSharesSpec : ChangeSpec := { name := "fnPalettedSubShares", fn := fun _ => fun
  | [d1, d2, d3, d4, d5] => { results := [.lit (.bool true)], args := [d1, d2, d3, d4, d5] }
  | _ => none }
def fnPalettedSubSharesRow : OpenClaim := { program := "ytkhgobeeaiagfaa", sum := "73aa1b4f5b79004edffddfa6f70876fb7069845fa978ca4e9974dff2d9d71948", func := "lib-sheetfilm/laws.FnPalettedSubShares", spec := "fnPalettedSubShares", apart := false }
def FnPalettedSubSharesSaid : Prop := fnPalettedSubSharesRow.holds Try.pinned (OpenSpec.ofChange fnPalettedSubSharesSpec)

/-- ITS FALSE NEIGHBOUR: 'it returns false'. Refute it at one input. -/
def fnPalettedSubSharesWrong : ChangeSpec := { name := "fnPalettedSubShares", fn := fun _ => fun
  | [d1, d2, d3, d4, d5] => { results := [.lit (.bool false)], args := [d1, d2, d3, d4, d5] }
  | _ => none }
def FnPalettedSubSharesWrongFalsely : Prop := fnPalettedSubSharesRow.holds Try.pinned (OpenSpec.ofChange fnPalettedSubSharesWrong)

/- THE SECOND FORM. 'bulk': how many values and letters a reading holds, each counted each time it is reached (what is shared counts as often as it is met; a slice's spare places count too). A statement '..UptoSaid' is the law's where the arguments, and the package variables that the reading takes, are together of bulk at most 1048576: NARROWER than '..Said'. Prove '..Said' where nothing that the law and all that it calls make is longer than what came in: it says more and counts as full. Else prove '..UptoSaid'. A law counts once. -/
mutual
def uptoBulk {H : Type} : DataW H → Nat
  | .lit (.string bytes) => bytes.length + 1
  | .lit _ => 1
  | .nil => 1
  | .ptr d => uptoBulk d + 1
  | .slice elems spare => uptoBulkAll elems + uptoBulkAll spare + 1
  | .agg parts => uptoBulkAll parts + 1
  | .iface _ d => uptoBulk d + 1
  | .map entries => uptoBulkEntries entries + 1
  | .held _ => 1
def uptoBulkAll {H : Type} : List (DataW H) → Nat
  | [] => 0
  | d :: r => uptoBulk d + uptoBulkAll r
def uptoBulkEntries {H : Type} : List (Lit × DataW H) → Nat
  | [] => 0
  | x :: r => uptoBulkEntry x + uptoBulkEntries r
def uptoBulkEntry {H : Type} : Lit × DataW H → Nat
  | (.string bytes, d) => bytes.length + uptoBulk d + 1
  | (_, d) => uptoBulk d + 1
 end
def uptoSmall : (H : Type) → List (DataW H) → Bool := fun _ ds => decide (uptoBulkAll ds ≤ 1048576)
def OpenSpec.upto (s : _root_.Go.ChangeSpec) : _root_.Go.OpenSpec := { _root_.Go.OpenSpec.ofChange s with cond := some uptoSmall }

/-- 'laws.FnPalettedOffset', WHERE WHAT IT READS IS OF BULK AT MOST 1048576: true; the input reads as it did. -/
def fnPalettedOffsetUptoRow : OpenClaim := { program := "ytkhgobeeaiagfaa", sum := "73aa1b4f5b79004edffddfa6f70876fb7069845fa978ca4e9974dff2d9d71948", func := "lib-sheetfilm/laws.FnPalettedOffset", spec := "fnPalettedOffset", apart := false, narrowed := true }
def FnPalettedOffsetUptoSaid : Prop := fnPalettedOffsetUptoRow.holds Try.pinned (OpenSpec.upto fnPalettedOffsetSpec)

/-- 'laws.FnPalettedOffsetAnywhere', WHERE WHAT IT READS IS OF BULK AT MOST 1048576: true; the input reads as it did. -/
def fnPalettedOffsetAnywhereUptoRow : OpenClaim := { program := "ytkhgobeeaiagfaa", sum := "73aa1b4f5b79004edffddfa6f70876fb7069845fa978ca4e9974dff2d9d71948", func := "lib-sheetfilm/laws.FnPalettedOffsetAnywhere", spec := "fnPalettedOffsetAnywhere", apart := false, narrowed := true }
def FnPalettedOffsetAnywhereUptoSaid : Prop := fnPalettedOffsetAnywhereUptoRow.holds Try.pinned (OpenSpec.upto fnPalettedOffsetAnywhereSpec)

/-- 'laws.FnPalettedIndex', WHERE WHAT IT READS IS OF BULK AT MOST 1048576: true; the input reads as it did. -/
def fnPalettedIndexUptoRow : OpenClaim := { program := "ytkhgobeeaiagfaa", sum := "73aa1b4f5b79004edffddfa6f70876fb7069845fa978ca4e9974dff2d9d71948", func := "lib-sheetfilm/laws.FnPalettedIndex", spec := "fnPalettedIndex", apart := false, narrowed := true }
def FnPalettedIndexUptoSaid : Prop := fnPalettedIndexUptoRow.holds Try.pinned (OpenSpec.upto fnPalettedIndexSpec)

/-- 'laws.FnPalettedIndexOutside', WHERE WHAT IT READS IS OF BULK AT MOST 1048576: true; the input reads as it did. -/
def fnPalettedIndexOutsideUptoRow : OpenClaim := { program := "ytkhgobeeaiagfaa", sum := "73aa1b4f5b79004edffddfa6f70876fb7069845fa978ca4e9974dff2d9d71948", func := "lib-sheetfilm/laws.FnPalettedIndexOutside", spec := "fnPalettedIndexOutside", apart := false, narrowed := true }
def FnPalettedIndexOutsideUptoSaid : Prop := fnPalettedIndexOutsideUptoRow.holds Try.pinned (OpenSpec.upto fnPalettedIndexOutsideSpec)

/-- 'laws.FnPalettedOpaque', WHERE WHAT IT READS IS OF BULK AT MOST 1048576: true; the input reads as it did. -/
def fnPalettedOpaqueUptoRow : OpenClaim := { program := "ytkhgobeeaiagfaa", sum := "73aa1b4f5b79004edffddfa6f70876fb7069845fa978ca4e9974dff2d9d71948", func := "lib-sheetfilm/laws.FnPalettedOpaque", spec := "fnPalettedOpaque", unfollowed := true, recurses := true, apart := false, narrowed := true }
def FnPalettedOpaqueUptoSaid : Prop := fnPalettedOpaqueUptoRow.holds Try.pinned (OpenSpec.upto fnPalettedOpaqueSpec)

/-- 'laws.FnPalettedSetOutside', WHERE WHAT IT READS IS OF BULK AT MOST 1048576: true; the input reads as it did. -/
def fnPalettedSetOutsideUptoRow : OpenClaim := { program := "ytkhgobeeaiagfaa", sum := "73aa1b4f5b79004edffddfa6f70876fb7069845fa978ca4e9974dff2d9d71948", func := "lib-sheetfilm/laws.FnPalettedSetOutside", spec := "fnPalettedSetOutside", apart := false, narrowed := true }
def FnPalettedSetOutsideUptoSaid : Prop := fnPalettedSetOutsideUptoRow.holds Try.pinned (OpenSpec.upto fnPalettedSetOutsideSpec)

/-- 'laws.FnPalettedSet', WHERE WHAT IT READS IS OF BULK AT MOST 1048576: true; the input reads as it did. -/
def fnPalettedSetUptoRow : OpenClaim := { program := "ytkhgobeeaiagfaa", sum := "73aa1b4f5b79004edffddfa6f70876fb7069845fa978ca4e9974dff2d9d71948", func := "lib-sheetfilm/laws.FnPalettedSet", spec := "fnPalettedSet", apart := false, narrowed := true }
def FnPalettedSetUptoSaid : Prop := fnPalettedSetUptoRow.holds Try.pinned (OpenSpec.upto fnPalettedSetSpec)

/-- 'laws.FnPalettedNew', WHERE WHAT IT READS IS OF BULK AT MOST 1048576: true; the input reads as it did. -/
def fnPalettedNewUptoRow : OpenClaim := { program := "ytkhgobeeaiagfaa", sum := "73aa1b4f5b79004edffddfa6f70876fb7069845fa978ca4e9974dff2d9d71948", func := "lib-sheetfilm/laws.FnPalettedNew", spec := "fnPalettedNew", apart := false, narrowed := true }
def FnPalettedNewUptoSaid : Prop := fnPalettedNewUptoRow.holds Try.pinned (OpenSpec.upto fnPalettedNewSpec)

/-- 'laws.FnPalettedNewBlank', WHERE WHAT IT READS IS OF BULK AT MOST 1048576: true; the input reads as it did. -/
def fnPalettedNewBlankUptoRow : OpenClaim := { program := "ytkhgobeeaiagfaa", sum := "73aa1b4f5b79004edffddfa6f70876fb7069845fa978ca4e9974dff2d9d71948", func := "lib-sheetfilm/laws.FnPalettedNewBlank", spec := "fnPalettedNewBlank", unfollowed := true, recurses := true, apart := false, narrowed := true }
def FnPalettedNewBlankUptoSaid : Prop := fnPalettedNewBlankUptoRow.holds Try.pinned (OpenSpec.upto fnPalettedNewBlankSpec)

/-- 'laws.FnPalettedSub', WHERE WHAT IT READS IS OF BULK AT MOST 1048576: true; the input reads as it did. -/
def fnPalettedSubUptoRow : OpenClaim := { program := "ytkhgobeeaiagfaa", sum := "73aa1b4f5b79004edffddfa6f70876fb7069845fa978ca4e9974dff2d9d71948", func := "lib-sheetfilm/laws.FnPalettedSub", spec := "fnPalettedSub", apart := false, narrowed := true }
def FnPalettedSubUptoSaid : Prop := fnPalettedSubUptoRow.holds Try.pinned (OpenSpec.upto fnPalettedSubSpec)

/-- 'laws.FnPalettedRun', WHERE WHAT IT READS IS OF BULK AT MOST 1048576: true; the input reads as it did. -/
def fnPalettedRunUptoRow : OpenClaim := { program := "ytkhgobeeaiagfaa", sum := "73aa1b4f5b79004edffddfa6f70876fb7069845fa978ca4e9974dff2d9d71948", func := "lib-sheetfilm/laws.FnPalettedRun", spec := "fnPalettedRun", apart := false, narrowed := true }
def FnPalettedRunUptoSaid : Prop := fnPalettedRunUptoRow.holds Try.pinned (OpenSpec.upto fnPalettedRunSpec)

/-- 'laws.FnPalettedSubShares', WHERE WHAT IT READS IS OF BULK AT MOST 1048576: true; the input reads as it did. -/
def fnPalettedSubSharesUptoRow : OpenClaim := { program := "ytkhgobeeaiagfaa", sum := "73aa1b4f5b79004edffddfa6f70876fb7069845fa978ca4e9974dff2d9d71948", func := "lib-sheetfilm/laws.FnPalettedSubShares", spec := "fnPalettedSubShares", apart := false, narrowed := true }
def FnPalettedSubSharesUptoSaid : Prop := fnPalettedSubSharesUptoRow.holds Try.pinned (OpenSpec.upto fnPalettedSubSharesSpec)

end Rows
end Go.Proofs.Ytkhgobeeaiagfaa
