/-
  No cell of these rows narrows 'for every input' (looked for: loops, veiled, ifaces, maps, wideKeys, modest, calm, conditions, laid).
  DERIVED. THE GIVEN ROWS OF THIS SEAT. 8 by the template 'for every input the law returns true; each argument reads behind the call as it read before'; 0 by the template 'total and deterministic' (their statements: YtimdoelgahemdaaTotals.lean).
  GIVEN WITH THE SEED: the statements are not yours to turn. If you find one false, say at which input.
  Laid BY PROGRAM, IN A SANDBOX (cutbox-rows.mjs): the forced cells as the released guide's own fill.sh prints them over the translation a3e2289985fc3476… (all of the seat's roots in one cut). By AI agents, Wed Nov 11 2026. No macro, syntax, notation, axiom, sorry.
-/
import Derived.Test.YtimdoelgahemdaaChecked
import GoSem.Claim
import GoSem.ClaimJoined
import GoSem.ClaimMapViews
import Derived.JoinedTies
import Derived.KernelRfl
namespace Go.Proofs.Ytimdoelgahemdaa
/- THE CELL 'sum', in the pinned program and in every row, IS THE sha256 OF THE DUMP (.gsa) THAT YtimdoelgahemdaaProg.lean LOADS. Nothing in Lean hashes anything: it is a label: what it is worth is what the hold of that sum in a sandbox is worth. -/
noncomputable def Try.pinned : Pinned := { name := "ytimdoelgahemdaa", sum := "a3e2289985fc34766c5c19633b99252b96ce050cf5d89db55e3798e3c2f4c259", checked := Try.checked }
namespace Rows
def none {H : Type} : Left H := { results := [], args := [] }

/-- 'laws.FnRGBA64Valid': WHATEVER THE INPUT: true; the input reads as it did. -/
def fnRGBA64ValidSpec : ChangeSpec := { name := "fnRGBA64Valid", fn := fun _ => fun
  | [d] => { results := [.lit (.bool true)], args := [d] }
  | _ => none }
def fnRGBA64ValidRow : OpenClaim := { program := "ytimdoelgahemdaa", sum := "a3e2289985fc34766c5c19633b99252b96ce050cf5d89db55e3798e3c2f4c259", func := "lib-sheetfilm/laws.FnRGBA64Valid", spec := "fnRGBA64Valid", apart := false }
def FnRGBA64ValidSaid : Prop := fnRGBA64ValidRow.holds Try.pinned (OpenSpec.ofChange fnRGBA64ValidSpec)

/-- ITS FALSE NEIGHBOUR: 'it returns false'. Refute it at one input. -/
def fnRGBA64ValidWrong : ChangeSpec := { name := "fnRGBA64Valid", fn := fun _ => fun
  | [d] => { results := [.lit (.bool false)], args := [d] }
  | _ => none }
def FnRGBA64ValidWrongFalsely : Prop := fnRGBA64ValidRow.holds Try.pinned (OpenSpec.ofChange fnRGBA64ValidWrong)

/-- 'laws.FnAlpha16Spread': WHATEVER THE INPUT: true; the input reads as it did. -/
def fnAlpha16SpreadSpec : ChangeSpec := { name := "fnAlpha16Spread", fn := fun _ => fun
  | [d] => { results := [.lit (.bool true)], args := [d] }
  | _ => none }
def fnAlpha16SpreadRow : OpenClaim := { program := "ytimdoelgahemdaa", sum := "a3e2289985fc34766c5c19633b99252b96ce050cf5d89db55e3798e3c2f4c259", func := "lib-sheetfilm/laws.FnAlpha16Spread", spec := "fnAlpha16Spread", apart := false }
def FnAlpha16SpreadSaid : Prop := fnAlpha16SpreadRow.holds Try.pinned (OpenSpec.ofChange fnAlpha16SpreadSpec)

/-- ITS FALSE NEIGHBOUR: 'it returns false'. Refute it at one input. -/
def fnAlpha16SpreadWrong : ChangeSpec := { name := "fnAlpha16Spread", fn := fun _ => fun
  | [d] => { results := [.lit (.bool false)], args := [d] }
  | _ => none }
def FnAlpha16SpreadWrongFalsely : Prop := fnAlpha16SpreadRow.holds Try.pinned (OpenSpec.ofChange fnAlpha16SpreadWrong)

/-- 'laws.FnGray16Spread': WHATEVER THE INPUT: true; the input reads as it did. -/
def fnGray16SpreadSpec : ChangeSpec := { name := "fnGray16Spread", fn := fun _ => fun
  | [d] => { results := [.lit (.bool true)], args := [d] }
  | _ => none }
def fnGray16SpreadRow : OpenClaim := { program := "ytimdoelgahemdaa", sum := "a3e2289985fc34766c5c19633b99252b96ce050cf5d89db55e3798e3c2f4c259", func := "lib-sheetfilm/laws.FnGray16Spread", spec := "fnGray16Spread", apart := false }
def FnGray16SpreadSaid : Prop := fnGray16SpreadRow.holds Try.pinned (OpenSpec.ofChange fnGray16SpreadSpec)

/-- ITS FALSE NEIGHBOUR: 'it returns false'. Refute it at one input. -/
def fnGray16SpreadWrong : ChangeSpec := { name := "fnGray16Spread", fn := fun _ => fun
  | [d] => { results := [.lit (.bool false)], args := [d] }
  | _ => none }
def FnGray16SpreadWrongFalsely : Prop := fnGray16SpreadRow.holds Try.pinned (OpenSpec.ofChange fnGray16SpreadWrong)

/-- 'laws.FnNRGBA64Spread': WHATEVER THE INPUT: true; the input reads as it did. -/
def fnNRGBA64SpreadSpec : ChangeSpec := { name := "fnNRGBA64Spread", fn := fun _ => fun
  | [d] => { results := [.lit (.bool true)], args := [d] }
  | _ => none }
def fnNRGBA64SpreadRow : OpenClaim := { program := "ytimdoelgahemdaa", sum := "a3e2289985fc34766c5c19633b99252b96ce050cf5d89db55e3798e3c2f4c259", func := "lib-sheetfilm/laws.FnNRGBA64Spread", spec := "fnNRGBA64Spread", apart := false }
def FnNRGBA64SpreadSaid : Prop := fnNRGBA64SpreadRow.holds Try.pinned (OpenSpec.ofChange fnNRGBA64SpreadSpec)

/-- ITS FALSE NEIGHBOUR: 'it returns false'. Refute it at one input. -/
def fnNRGBA64SpreadWrong : ChangeSpec := { name := "fnNRGBA64Spread", fn := fun _ => fun
  | [d] => { results := [.lit (.bool false)], args := [d] }
  | _ => none }
def FnNRGBA64SpreadWrongFalsely : Prop := fnNRGBA64SpreadRow.holds Try.pinned (OpenSpec.ofChange fnNRGBA64SpreadWrong)

/-- 'laws.FnNRGBA64SpreadScales': WHATEVER THE INPUT: true; the input reads as it did. -/
def fnNRGBA64SpreadScalesSpec : ChangeSpec := { name := "fnNRGBA64SpreadScales", fn := fun _ => fun
  | [d] => { results := [.lit (.bool true)], args := [d] }
  | _ => none }
def fnNRGBA64SpreadScalesRow : OpenClaim := { program := "ytimdoelgahemdaa", sum := "a3e2289985fc34766c5c19633b99252b96ce050cf5d89db55e3798e3c2f4c259", func := "lib-sheetfilm/laws.FnNRGBA64SpreadScales", spec := "fnNRGBA64SpreadScales", unfollowed := true, recurses := true, apart := false }
def FnNRGBA64SpreadScalesSaid : Prop := fnNRGBA64SpreadScalesRow.holds Try.pinned (OpenSpec.ofChange fnNRGBA64SpreadScalesSpec)

/-- ITS FALSE NEIGHBOUR: 'it returns false'. Refute it at one input. -/
def fnNRGBA64SpreadScalesWrong : ChangeSpec := { name := "fnNRGBA64SpreadScales", fn := fun _ => fun
  | [d] => { results := [.lit (.bool false)], args := [d] }
  | _ => none }
def FnNRGBA64SpreadScalesWrongFalsely : Prop := fnNRGBA64SpreadScalesRow.holds Try.pinned (OpenSpec.ofChange fnNRGBA64SpreadScalesWrong)

/-- 'laws.FnNRGBA64Valid': WHATEVER THE INPUT: true; the input reads as it did. -/
def fnNRGBA64ValidSpec : ChangeSpec := { name := "fnNRGBA64Valid", fn := fun _ => fun
  | [d] => { results := [.lit (.bool true)], args := [d] }
  | _ => none }
def fnNRGBA64ValidRow : OpenClaim := { program := "ytimdoelgahemdaa", sum := "a3e2289985fc34766c5c19633b99252b96ce050cf5d89db55e3798e3c2f4c259", func := "lib-sheetfilm/laws.FnNRGBA64Valid", spec := "fnNRGBA64Valid", apart := false }
def FnNRGBA64ValidSaid : Prop := fnNRGBA64ValidRow.holds Try.pinned (OpenSpec.ofChange fnNRGBA64ValidSpec)

/-- ITS FALSE NEIGHBOUR: 'it returns false'. Refute it at one input. -/
def fnNRGBA64ValidWrong : ChangeSpec := { name := "fnNRGBA64Valid", fn := fun _ => fun
  | [d] => { results := [.lit (.bool false)], args := [d] }
  | _ => none }
def FnNRGBA64ValidWrongFalsely : Prop := fnNRGBA64ValidRow.holds Try.pinned (OpenSpec.ofChange fnNRGBA64ValidWrong)

/-- 'laws.FnNYCbCrASpread': WHATEVER THE INPUT: true; the input reads as it did. -/
def fnNYCbCrASpreadSpec : ChangeSpec := { name := "fnNYCbCrASpread", fn := fun _ => fun
  | [d] => { results := [.lit (.bool true)], args := [d] }
  | _ => none }
def fnNYCbCrASpreadRow : OpenClaim := { program := "ytimdoelgahemdaa", sum := "a3e2289985fc34766c5c19633b99252b96ce050cf5d89db55e3798e3c2f4c259", func := "lib-sheetfilm/laws.FnNYCbCrASpread", spec := "fnNYCbCrASpread", apart := false }
def FnNYCbCrASpreadSaid : Prop := fnNYCbCrASpreadRow.holds Try.pinned (OpenSpec.ofChange fnNYCbCrASpreadSpec)

/-- ITS FALSE NEIGHBOUR: 'it returns false'. Refute it at one input. -/
def fnNYCbCrASpreadWrong : ChangeSpec := { name := "fnNYCbCrASpread", fn := fun _ => fun
  | [d] => { results := [.lit (.bool false)], args := [d] }
  | _ => none }
def FnNYCbCrASpreadWrongFalsely : Prop := fnNYCbCrASpreadRow.holds Try.pinned (OpenSpec.ofChange fnNYCbCrASpreadWrong)

/-- 'laws.FnNYCbCrAValid': WHATEVER THE INPUT: true; the input reads as it did. -/
def fnNYCbCrAValidSpec : ChangeSpec := { name := "fnNYCbCrAValid", fn := fun _ => fun
  | [d] => { results := [.lit (.bool true)], args := [d] }
  | _ => none }
def fnNYCbCrAValidRow : OpenClaim := { program := "ytimdoelgahemdaa", sum := "a3e2289985fc34766c5c19633b99252b96ce050cf5d89db55e3798e3c2f4c259", func := "lib-sheetfilm/laws.FnNYCbCrAValid", spec := "fnNYCbCrAValid", apart := false }
def FnNYCbCrAValidSaid : Prop := fnNYCbCrAValidRow.holds Try.pinned (OpenSpec.ofChange fnNYCbCrAValidSpec)

/-- ITS FALSE NEIGHBOUR: 'it returns false'. Refute it at one input. -/
def fnNYCbCrAValidWrong : ChangeSpec := { name := "fnNYCbCrAValid", fn := fun _ => fun
  | [d] => { results := [.lit (.bool false)], args := [d] }
  | _ => none }
def FnNYCbCrAValidWrongFalsely : Prop := fnNYCbCrAValidRow.holds Try.pinned (OpenSpec.ofChange fnNYCbCrAValidWrong)

/- THE SECOND FORM. 'bulk': how many values and letters a reading holds, each counted each time it is reached (what is shared counts as often as it is met; a slice's spare places count too). A statement '..UptoSaid' is the law's where the arguments, and the package variables that the reading takes, are together of bulk at most 1048576: NARROWER than '..Said'. Prove '..Said' where nothing that the law and all that it calls make is longer than what came in: it says more and counts as full. Else prove '..UptoSaid'. A law counts once. -/
mutual
def uptoBulk {H : Type} : DataW H → Nat
  | .lit (.string bytes) => bytes.length + 1
  | .lit _ => 1
  | .nil => 1
  | .ptr d => uptoBulk d + 1
  | .slice elems spare => uptoBulkAll elems + uptoBulkAll spare + 1
  | .agg parts => uptoBulkAll parts + 1
  | .iface _ d => uptoBulk d + 1
  | .map entries => uptoBulkEntries entries + 1
  | .held _ => 1
def uptoBulkAll {H : Type} : List (DataW H) → Nat
  | [] => 0
  | d :: r => uptoBulk d + uptoBulkAll r
def uptoBulkEntries {H : Type} : List (Lit × DataW H) → Nat
  | [] => 0
  | x :: r => uptoBulkEntry x + uptoBulkEntries r
def uptoBulkEntry {H : Type} : Lit × DataW H → Nat
  | (.string bytes, d) => bytes.length + uptoBulk d + 1
  | (_, d) => uptoBulk d + 1
 end
def uptoSmall : (H : Type) → List (DataW H) → Bool := fun _ ds => decide (uptoBulkAll ds ≤ 1048576)
def OpenSpec.upto (s : _root_.Go.ChangeSpec) : _root_.Go.OpenSpec := { _root_.Go.OpenSpec.ofChange s with cond := some uptoSmall }

/-- 'laws.FnRGBA64Valid', WHERE WHAT IT READS IS OF BULK AT MOST 1048576: true; the input reads as it did. -/
def fnRGBA64ValidUptoRow : OpenClaim := { program := "ytimdoelgahemdaa", sum := "a3e2289985fc34766c5c19633b99252b96ce050cf5d89db55e3798e3c2f4c259", func := "lib-sheetfilm/laws.FnRGBA64Valid", spec := "fnRGBA64Valid", apart := false, narrowed := true }
def FnRGBA64ValidUptoSaid : Prop := fnRGBA64ValidUptoRow.holds Try.pinned (OpenSpec.upto fnRGBA64ValidSpec)

/-- 'laws.FnAlpha16Spread', WHERE WHAT IT READS IS OF BULK AT MOST 1048576: true; the input reads as it did. -/
def fnAlpha16SpreadUptoRow : OpenClaim := { program := "ytimdoelgahemdaa", sum := "a3e2289985fc34766c5c19633b99252b96ce050cf5d89db55e3798e3c2f4c259", func := "lib-sheetfilm/laws.FnAlpha16Spread", spec := "fnAlpha16Spread", apart := false, narrowed := true }
def FnAlpha16SpreadUptoSaid : Prop := fnAlpha16SpreadUptoRow.holds Try.pinned (OpenSpec.upto fnAlpha16SpreadSpec)

/-- 'laws.FnGray16Spread', WHERE WHAT IT READS IS OF BULK AT MOST 1048576: true; the input reads as it did. -/
def fnGray16SpreadUptoRow : OpenClaim := { program := "ytimdoelgahemdaa", sum := "a3e2289985fc34766c5c19633b99252b96ce050cf5d89db55e3798e3c2f4c259", func := "lib-sheetfilm/laws.FnGray16Spread", spec := "fnGray16Spread", apart := false, narrowed := true }
def FnGray16SpreadUptoSaid : Prop := fnGray16SpreadUptoRow.holds Try.pinned (OpenSpec.upto fnGray16SpreadSpec)

/-- 'laws.FnNRGBA64Spread', WHERE WHAT IT READS IS OF BULK AT MOST 1048576: true; the input reads as it did. -/
def fnNRGBA64SpreadUptoRow : OpenClaim := { program := "ytimdoelgahemdaa", sum := "a3e2289985fc34766c5c19633b99252b96ce050cf5d89db55e3798e3c2f4c259", func := "lib-sheetfilm/laws.FnNRGBA64Spread", spec := "fnNRGBA64Spread", apart := false, narrowed := true }
def FnNRGBA64SpreadUptoSaid : Prop := fnNRGBA64SpreadUptoRow.holds Try.pinned (OpenSpec.upto fnNRGBA64SpreadSpec)

/-- 'laws.FnNRGBA64SpreadScales', WHERE WHAT IT READS IS OF BULK AT MOST 1048576: true; the input reads as it did. -/
def fnNRGBA64SpreadScalesUptoRow : OpenClaim := { program := "ytimdoelgahemdaa", sum := "a3e2289985fc34766c5c19633b99252b96ce050cf5d89db55e3798e3c2f4c259", func := "lib-sheetfilm/laws.FnNRGBA64SpreadScales", spec := "fnNRGBA64SpreadScales", unfollowed := true, recurses := true, apart := false, narrowed := true }
def FnNRGBA64SpreadScalesUptoSaid : Prop := fnNRGBA64SpreadScalesUptoRow.holds Try.pinned (OpenSpec.upto fnNRGBA64SpreadScalesSpec)

/-- 'laws.FnNRGBA64Valid', WHERE WHAT IT READS IS OF BULK AT MOST 1048576: true; the input reads as it did. -/
def fnNRGBA64ValidUptoRow : OpenClaim := { program := "ytimdoelgahemdaa", sum := "a3e2289985fc34766c5c19633b99252b96ce050cf5d89db55e3798e3c2f4c259", func := "lib-sheetfilm/laws.FnNRGBA64Valid", spec := "fnNRGBA64Valid", apart := false, narrowed := true }
def FnNRGBA64ValidUptoSaid : Prop := fnNRGBA64ValidUptoRow.holds Try.pinned (OpenSpec.upto fnNRGBA64ValidSpec)

/-- 'laws.FnNYCbCrASpread', WHERE WHAT IT READS IS OF BULK AT MOST 1048576: true; the input reads as it did. -/
def fnNYCbCrASpreadUptoRow : OpenClaim := { program := "ytimdoelgahemdaa", sum := "a3e2289985fc34766c5c19633b99252b96ce050cf5d89db55e3798e3c2f4c259", func := "lib-sheetfilm/laws.FnNYCbCrASpread", spec := "fnNYCbCrASpread", apart := false, narrowed := true }
def FnNYCbCrASpreadUptoSaid : Prop := fnNYCbCrASpreadUptoRow.holds Try.pinned (OpenSpec.upto fnNYCbCrASpreadSpec)

/-- 'laws.FnNYCbCrAValid', WHERE WHAT IT READS IS OF BULK AT MOST 1048576: true; the input reads as it did. -/
def fnNYCbCrAValidUptoRow : OpenClaim := { program := "ytimdoelgahemdaa", sum := "a3e2289985fc34766c5c19633b99252b96ce050cf5d89db55e3798e3c2f4c259", func := "lib-sheetfilm/laws.FnNYCbCrAValid", spec := "fnNYCbCrAValid", apart := false, narrowed := true }
def FnNYCbCrAValidUptoSaid : Prop := fnNYCbCrAValidUptoRow.holds Try.pinned (OpenSpec.upto fnNYCbCrAValidSpec)

end Rows
end Go.Proofs.Ytimdoelgahemdaa
