/-
  No cell of these rows narrows 'for every input' (looked for: loops, veiled, ifaces, maps, wideKeys, modest, calm, conditions, laid).
  DERIVED. THE GIVEN ROWS OF THIS SEAT. 1 by the template 'for every input the law returns true; each argument reads behind the call as it read before'; 0 by the template 'total and deterministic' (their statements: YbulkexojqTotals.lean).
  GIVEN WITH THE SEED: the statements are not yours to turn. If you find one false, say at which input.
  Laid BY PROGRAM, IN A SANDBOX (cutbox-rows.mjs): the forced cells as the released guide's own fill.sh prints them over the translation 101626aae2d939b5… (all of the seat's roots in one cut). By AI agents, Wed Nov 11 2026. No macro, syntax, notation, axiom, sorry.
-/
import Derived.Test.YbulkexojqChecked
import GoSem.Claim
import GoSem.ClaimJoined
import GoSem.ClaimMapViews
import Derived.JoinedTies
import Derived.KernelRfl
namespace Go.Proofs.Ybulkexojq
/- THE CELL 'sum', in the pinned program and in every row, IS THE sha256 OF THE DUMP (.gsa) THAT YbulkexojqProg.lean LOADS. Nothing in Lean hashes anything: it is a label: what it is worth is what the hold of that sum in a sandbox is worth. -/
noncomputable def Yba.pinned : Pinned := { name := "ybulkexojq", sum := "101626aae2d939b5e81f24bfc51d32d6adea22ed9c49206cca1e6f7366e6bcd2", checked := Yba.checked }
namespace Rows
def none {H : Type} : Left H := { results := [], args := [] }

/-- 'jsonfeed.LawS194080CWhole': WHATEVER THE INPUT: true; the input reads as it did. -/
def lawS194080CWholeSpec : ChangeSpec := { name := "lawS194080CWhole", fn := fun _ => fun
  | [d1, d2, d3, d4, d5] => { results := [.lit (.bool true)], args := [d1, d2, d3, d4, d5] }
  | _ => none }
def lawS194080CWholeRow : OpenClaim := { program := "ybulkexojq", sum := "101626aae2d939b5e81f24bfc51d32d6adea22ed9c49206cca1e6f7366e6bcd2", func := "example.com/syndiloom/syndiloom/internal/jsonfeed.LawS194080CWhole", spec := "lawS194080CWhole", apart := false }
def LawS194080CWholeSaid : Prop := lawS194080CWholeRow.holds Yba.pinned (OpenSpec.ofChange lawS194080CWholeSpec)

/-- ITS FALSE NEIGHBOUR: 'it returns false'. Refute it at one input. -/
def lawS194080CWholeWrong : ChangeSpec := { name := "lawS194080CWhole", fn := fun _ => fun
  | [d1, d2, d3, d4, d5] => { results := [.lit (.bool false)], args := [d1, d2, d3, d4, d5] }
  | _ => none }
def LawS194080CWholeWrongFalsely : Prop := lawS194080CWholeRow.holds Yba.pinned (OpenSpec.ofChange lawS194080CWholeWrong)

end Rows
end Go.Proofs.Ybulkexojq
