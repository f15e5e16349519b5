/- Plain: what is kept over calls inside a region that draws its order. -/
import Derived.Test.YtkhgobeeaiagfaaMem
import Derived.Deep.DeepCutAuto
namespace Go.Proofs.Ytkhgobeeaiagfaa
open Go.RowKit
set_option linter.unusedVariables false

theorem lt_sets {w w' : World} {n : Nat} (h : n < w.heap.size) (e : w'.heap.size = w.heap.size) : n < w'.heap.size := by omega
theorem frozenK {w w' : World} {a : Addr} {v : Value} (hc : w.cell? a = some v) (hf : w.frozen? a = false) (hb : Below w.heap.size w w') : w'.frozen? a = false :=
  (hb.frozen (World.block_lt_of_cell? w _ hc)).trans hf

end Go.Proofs.Ytkhgobeeaiagfaa
