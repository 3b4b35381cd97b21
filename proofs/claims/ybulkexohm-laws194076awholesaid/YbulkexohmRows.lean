/-
  No cell of these rows narrows 'for every input' (looked for: loops, veiled, ifaces, maps, wideKeys, modest, calm, conditions, laid).
  DERIVED. THE GIVEN ROWS OF THIS SEAT. 1 by the template 'for every input the law returns true; each argument reads behind the call as it read before'; 0 by the template 'total and deterministic' (their statements: YbulkexohmTotals.lean).
  GIVEN WITH THE SEED: the statements are not yours to turn. If you find one false, say at which input.
  Laid BY PROGRAM, IN A SANDBOX (cutbox-rows.mjs): the forced cells as the released guide's own fill.sh prints them over the translation b8f4b4e8fc1292b3… (all of the seat's roots in one cut). By AI agents, Wed Nov 11 2026. No macro, syntax, notation, axiom, sorry.
-/
import Derived.Test.YbulkexohmChecked
import GoSem.Claim
import GoSem.ClaimJoined
import GoSem.ClaimMapViews
import Derived.JoinedTies
import Derived.KernelRfl
namespace Go.Proofs.Ybulkexohm
/- THE CELL 'sum', in the pinned program and in every row, IS THE sha256 OF THE DUMP (.gsa) THAT YbulkexohmProg.lean LOADS. Nothing in Lean hashes anything: it is a label: what it is worth is what the hold of that sum in a sandbox is worth. -/
noncomputable def Yba.pinned : Pinned := { name := "ybulkexohm", sum := "b8f4b4e8fc1292b32c837d66f0db3a446681c8d27c8cbaa4744e96cd3af0766d", checked := Yba.checked }
namespace Rows
def none {H : Type} : Left H := { results := [], args := [] }

/-- 'ddl.LawS194076AWhole': WHATEVER THE INPUT: true; the input reads as it did. -/
def lawS194076AWholeSpec : ChangeSpec := { name := "lawS194076AWhole", fn := fun _ => fun
  | [d1, d2, d3, d4, d5, d6] => { results := [.lit (.bool true)], args := [d1, d2, d3, d4, d5, d6] }
  | _ => none }
def lawS194076AWholeRow : OpenClaim := { program := "ybulkexohm", sum := "b8f4b4e8fc1292b32c837d66f0db3a446681c8d27c8cbaa4744e96cd3af0766d", func := "example.com/deltawire/deltawire/ddl.LawS194076AWhole", spec := "lawS194076AWhole", inPlace := ["internal/abi.NoEscape", "internal/bytealg.MakeNoZero"], plainKeys := false, apart := false }
def LawS194076AWholeSaid : Prop := lawS194076AWholeRow.holds Yba.pinned (OpenSpec.ofChange lawS194076AWholeSpec)

/-- ITS FALSE NEIGHBOUR: 'it returns false'. Refute it at one input. -/
def lawS194076AWholeWrong : ChangeSpec := { name := "lawS194076AWhole", fn := fun _ => fun
  | [d1, d2, d3, d4, d5, d6] => { results := [.lit (.bool false)], args := [d1, d2, d3, d4, d5, d6] }
  | _ => none }
def LawS194076AWholeWrongFalsely : Prop := lawS194076AWholeRow.holds Yba.pinned (OpenSpec.ofChange lawS194076AWholeWrong)

end Rows
end Go.Proofs.Ybulkexohm
