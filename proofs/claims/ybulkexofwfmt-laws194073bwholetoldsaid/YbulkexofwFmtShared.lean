/-
  What the two told and tied cards share.
-/
import Derived.Test.YbulkexofwFmtParse
import Derived.Test.YbulkexofwFmtLaid
import Derived.Test.YbulkexofwFmtTie
import Derived.Test.YbulkexofwFmtCards
import Derived.ProofKit
import Derived.Stop.JoinedAt
import Derived.Stop.Texts
import Derived.Stop.JoinedTold
import Derived.Stop.LaidErr
import Derived.SevenTiedAt
namespace Go.Proofs.YbulkexofwFmt
open Go.ChangeShapes Go.WideShapes Go.ChangeAt Go.RowKit
open Go.ChangeMaps (open_string shut_string)
open Go.Extern.Stop Go.Stop Go.Extern

theorem own : ownKnob Ybaf.prog.godebug = none := by kernel_rfl
theorem row44 (u : TypeId) (h : Ybaf.prog.typeName? 3 u = Ybaf.prog.typeName? 3 44) : u = 44 :=
  typeName_ptr_named (nm := "errors.errorString") (by kernel_rfl) (by kernel_rfl) (by decide) u (h.trans (by kernel_rfl))

/-- The two sentinels, off the list. -/
theorem sentinels {W : World} (hL : laidMet Ybaf.prog Rows.lawS194073BWholeRow.laid W) :
    ∃ a0 a1 : Addr, W.var? Ybaf.prog "strconv.ErrSyntax" = some #[.iface 44 (.pointer (some a0))] ∧ W.var? Ybaf.prog "strconv.ErrRange" = some #[.iface 44 (.pointer (some a1))] := by
  obtain ⟨a1, t1, hv1, hc1, ht1, _⟩ := laid_sentinel (g := 2) hL.tail.tail.tail (by kernel_rfl) (by kernel_rfl) Ybaf.underlying26 (fun u h => row44 u (h.trans (by kernel_rfl))) Ybaf.underlying44 Ybaf.underlying46 rfl rfl Ybaf.underlying9 (by kernel_rfl) (by kernel_rfl)
  obtain ⟨a0, t0, hv0, hc0, ht0, _⟩ := laid_sentinel (g := 1) hL.tail.tail.tail.tail (by kernel_rfl) (by kernel_rfl) Ybaf.underlying26 (fun u h => row44 u (h.trans (by kernel_rfl))) Ybaf.underlying44 Ybaf.underlying46 rfl rfl Ybaf.underlying9 (by kernel_rfl) (by kernel_rfl)
  exact ⟨a0, a1, hv0, hv1⟩

theorem laidOut : laidOutB Ybaf.pinned.checked.prog = true := by kernel_rfl
theorem stops : Ybaf.pinned.checked.prog.stops = ["fmt.errorf"] := by kernel_rfl
theorem stopKnobs : Ybaf.pinned.checked.prog.stopKnobs = [] := by kernel_rfl
theorem quiet (os : Os) : Stop.quiet Ybaf.pinned.checked.prog os := by
  intro k hk
  rw [stopKnobs] at hk
  cases hk

end Go.Proofs.YbulkexofwFmt
