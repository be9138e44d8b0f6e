/- Cells carried from world to world. -/
import Derived.Test.YtgcdcchmdcdflaaDoorBase
set_option linter.unusedVariables false
namespace Go.Proofs.YtgcdcchmdcdflaaDoor
open Go.RowKit
theorem cell_up {W W' : World} {p : Addr} {v : Value} (hb : Below W.heap.size W W') (h : W.cell? p = some v) : W'.cell? p = some v := by
  have hlt : p.block < W.heap.size := by
    rcases Nat.lt_or_ge p.block W.heap.size with h' | h'
    · exact h'
    · simp [World.cell?, Array.getElem?_eq_none h'] at h
  exact (World.cell?_of_block (hb.block _ hlt)).trans h
end Go.Proofs.YtgcdcchmdcdflaaDoor
