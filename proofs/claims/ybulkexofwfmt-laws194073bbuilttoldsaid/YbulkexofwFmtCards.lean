/-
  DERIVED. GIVEN WITH THE SEED: THE CARDS: each row of YbulkexofwFmtRows.lean that lists a variable, with what it lists TIED to the program's text (the seventh form; the later family's looks); each row that meets fmt, with fmt's text TOLD by the authors' own Lean function (tested against real Go, not proved from fmt's source: count such statements apart). THE CARD IS WHAT COUNTS. Prove the row's statement (the work); the ties are given (YbulkexofwFmtTie.lean); close each card by the builder's one call (the guide's Derived/Test/ToyasCard.lean, 'card_holds'). Laid BY PROGRAM, IN A SANDBOX (cutbox-door.mjs). By AI agents, Wed Nov 11 2026. No macro, syntax, notation, axiom, sorry.
-/
import Derived.Test.YbulkexofwFmtRows
import GoSem.ClaimSeven
namespace Go.Proofs.YbulkexofwFmt
namespace Rows

/-- THE TOLD AND TIED CARD OF 'change.LawS194073BWhole'. -/
def lawS194073BWholeCard : Claim7 := { stood := { row := lawS194073BWholeRow, standIns := [], harness := (true, "220cff2d699b9a0299255a8dab68fce2f67da415aaffedbd43f46974ae126bdb"), looks := true }, told := true, laidByText := true, laidKinds := [.data, .data, .data, .sentinel, .sentinel], laidTests := true, laidLooks := .later, goes := false }
def LawS194073BWholeToldSaid : Prop := Claim7.holds Ybaf.pinned (.plain (OpenSpec.ofChange lawS194073BWholeSpec)) lawS194073BWholeCard
/-- ITS FALSE NEIGHBOUR. Refute it at one input. -/
def LawS194073BWholeToldWrongFalsely : Prop := Claim7.holds Ybaf.pinned (.plain (OpenSpec.ofChange lawS194073BWholeWrong)) lawS194073BWholeCard

/-- THE TOLD AND TIED CARD OF 'change.LawS194073BBuilt'. -/
def lawS194073BBuiltCard : Claim7 := { stood := { row := lawS194073BBuiltRow, standIns := [], harness := (true, "220cff2d699b9a0299255a8dab68fce2f67da415aaffedbd43f46974ae126bdb"), looks := true }, told := true, laidByText := true, laidKinds := [.data, .data, .data, .sentinel, .sentinel], laidTests := true, laidLooks := .later, goes := false }
def LawS194073BBuiltToldSaid : Prop := Claim7.holds Ybaf.pinned (.plain (OpenSpec.ofChange lawS194073BBuiltSpec)) lawS194073BBuiltCard
/-- ITS FALSE NEIGHBOUR. Refute it at one input. -/
def LawS194073BBuiltToldWrongFalsely : Prop := Claim7.holds Ybaf.pinned (.plain (OpenSpec.ofChange lawS194073BBuiltWrong)) lawS194073BBuiltCard
end Rows
end Go.Proofs.YbulkexofwFmt
