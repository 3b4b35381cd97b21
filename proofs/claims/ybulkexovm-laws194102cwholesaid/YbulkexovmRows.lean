/-
  No cell of these rows narrows 'for every input' (looked for: loops, veiled, ifaces, maps, wideKeys, modest, calm, conditions, laid).
  DERIVED. THE GIVEN ROWS OF THIS SEAT. 2 by the template 'for every input the law returns true; each argument reads behind the call as it read before'; 0 by the template 'total and deterministic' (their statements: YbulkexovmTotals.lean).
  GIVEN WITH THE SEED: the statements are not yours to turn. If you find one false, say at which input.
  Laid BY PROGRAM, IN A SANDBOX (cutbox-rows.mjs): the forced cells as the released guide's own fill.sh prints them over the translation 3665decb4841c7fe… (all of the seat's roots in one cut). By AI agents, Wed Nov 11 2026. No macro, syntax, notation, axiom, sorry.
-/
import Derived.Test.YbulkexovmChecked
import GoSem.Claim
import GoSem.ClaimJoined
import GoSem.ClaimMapViews
import Derived.JoinedTies
import Derived.KernelRfl
namespace Go.Proofs.Ybulkexovm
/- THE CELL 'sum', in the pinned program and in every row, IS THE sha256 OF THE DUMP (.gsa) THAT YbulkexovmProg.lean LOADS. Nothing in Lean hashes anything: it is a label: what it is worth is what the hold of that sum in a sandbox is worth. -/
noncomputable def Yba.pinned : Pinned := { name := "ybulkexovm", sum := "3665decb4841c7fe7753bf3177717ad9c4d19ddff5e3a2e4325ef320328c01d2", checked := Yba.checked }
namespace Rows
def none {H : Type} : Left H := { results := [], args := [] }

/-- 'pack.LawS194102BWhole': WHATEVER THE INPUT: true; the input reads as it did. -/
def lawS194102BWholeSpec : ChangeSpec := { name := "lawS194102BWhole", fn := fun _ => fun
  | [d1, d2] => { results := [.lit (.bool true)], args := [d1, d2] }
  | _ => none }
def lawS194102BWholeRow : OpenClaim := { program := "ybulkexovm", sum := "3665decb4841c7fe7753bf3177717ad9c4d19ddff5e3a2e4325ef320328c01d2", func := "example.com/kinrack/kinrack/internal/engine/pack.LawS194102BWhole", spec := "lawS194102BWhole", apart := false }
def LawS194102BWholeSaid : Prop := lawS194102BWholeRow.holds Yba.pinned (OpenSpec.ofChange lawS194102BWholeSpec)

/-- ITS FALSE NEIGHBOUR: 'it returns false'. Refute it at one input. -/
def lawS194102BWholeWrong : ChangeSpec := { name := "lawS194102BWhole", fn := fun _ => fun
  | [d1, d2] => { results := [.lit (.bool false)], args := [d1, d2] }
  | _ => none }
def LawS194102BWholeWrongFalsely : Prop := lawS194102BWholeRow.holds Yba.pinned (OpenSpec.ofChange lawS194102BWholeWrong)

/-- 'pack.LawS194102CWhole': WHATEVER THE INPUT: true; the input reads as it did. -/
def lawS194102CWholeSpec : ChangeSpec := { name := "lawS194102CWhole", fn := fun _ => fun
  | [d1, d2] => { results := [.lit (.bool true)], args := [d1, d2] }
  | _ => none }
def lawS194102CWholeRow : OpenClaim := { program := "ybulkexovm", sum := "3665decb4841c7fe7753bf3177717ad9c4d19ddff5e3a2e4325ef320328c01d2", func := "example.com/kinrack/kinrack/internal/engine/pack.LawS194102CWhole", spec := "lawS194102CWhole", apart := false }
def LawS194102CWholeSaid : Prop := lawS194102CWholeRow.holds Yba.pinned (OpenSpec.ofChange lawS194102CWholeSpec)

/-- ITS FALSE NEIGHBOUR: 'it returns false'. Refute it at one input. -/
def lawS194102CWholeWrong : ChangeSpec := { name := "lawS194102CWhole", fn := fun _ => fun
  | [d1, d2] => { results := [.lit (.bool false)], args := [d1, d2] }
  | _ => none }
def LawS194102CWholeWrongFalsely : Prop := lawS194102CWholeRow.holds Yba.pinned (OpenSpec.ofChange lawS194102CWholeWrong)

end Rows
end Go.Proofs.Ybulkexovm
