/-
  The zero of the Tables: 71 cells, of which this law looks at five.
-/
import Derived.Test.YbulkexohmHist
namespace Go.Proofs.Ybulkexohm
open Go.RowKit
theorem info65 : (Yba.prog.info? 65).bind (fun i => i.zero) = some (.agg (((Yba.prog.info? 65).bind (fun i => i.zero)).getD (.bool false)).cells) := by kernel_rfl
theorem zero65 : ∃ Z : Array Value, (∀ w, (zeroValue 65).run Yba.prog w = .ok (.agg Z) w) ∧ Z.size = 71 ∧ Z[9]? = some (.int .u64 0) ∧ Z[10]? = some (.int .u64 0) ∧ Z[53]? = some (.map none) ∧ Z[61]? = some (.slice none 0 0) ∧ Z[69]? = some (.int .u64 0) := by
  refine ⟨(((Yba.prog.info? 65).bind (fun i => i.zero)).getD (.bool false)).cells, fun w => ?_, by kernel_rfl, by kernel_rfl, by kernel_rfl, by kernel_rfl, by kernel_rfl, by kernel_rfl⟩
  kernel_rfl
end Go.Proofs.Ybulkexohm
