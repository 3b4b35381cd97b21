/-
  The start that is shown to be there: a world in which the five listed variables hold what the rows list.
-/
import Derived.Test.YbulkexofwFmtRows
import Derived.Deep.DeepWitnessRef
import Derived.Deep.DeepWitnessRowRef
import Derived.Deep.DeepLaidRun
import Derived.ProofKit
namespace Go.Proofs.YbulkexofwFmt

def zs32 : List Int := [0, 1, 28, 2, 29, 14, 24, 3, 30, 22, 20, 15, 25, 17, 4, 8, 31, 27, 13, 23, 21, 19, 16, 7, 26, 12, 18, 6, 11, 5, 10, 9]
def zs64 : List Int := [0, 1, 56, 2, 57, 49, 28, 3, 61, 58, 42, 50, 38, 29, 17, 4, 62, 47, 59, 36, 45, 43, 51, 22, 53, 39, 33, 30, 24, 18, 12, 5, 63, 55, 48, 27, 60, 41, 37, 16, 46, 35, 44, 21, 52, 32, 23, 11, 54, 26, 40, 15, 34, 20, 31, 10, 25, 14, 19, 9, 13, 8, 7, 6]
def zs10 : List Int := [1, 10, 100, 1000, 10000, 100000, 1000000, 10000000, 100000000, 1000000000, 10000000000, 100000000000, 1000000000000, 10000000000000, 100000000000000, 1000000000000000, 10000000000000000, 100000000000000000, 1000000000000000000, 10000000000000000000]
def put (h : Array Obj) (g : Nat) (cs : Array Value) : Array Obj := h.modify g fun
  | .cells _ t frozen => .cells cs t frozen
  | o => o
/-- The two errors' blocks lie at 'N' (out of range) and 'N + 1' (invalid). -/
def laidW (w0 : World) (N : Nat) : World :=
  { w0 with heap := put (put (put (put (put w0.heap 1 #[.iface 44 (.pointer (some ⟨N + 1, 0, none⟩))]) 2 #[.iface 44 (.pointer (some ⟨N, 0, none⟩))]) 3 (zs10.map (Value.int .u64)).toArray) 4 (zs32.map (Value.int .u8)).toArray) 5 (zs64.map (Value.int .u8)).toArray }
def blocks : Array Obj := #[.cells #[.string ⟨#[118, 97, 108, 117, 101, 32, 111, 117, 116, 32, 111, 102, 32, 114, 97, 110, 103, 101]⟩] 46, .cells #[.string ⟨#[105, 110, 118, 97, 108, 105, 100, 32, 115, 121, 110, 116, 97, 120]⟩] 46]

set_option maxRecDepth 1000000 in
theorem laid_met (os : Os) (args : Array Value) : laidMet Ybaf.prog Rows.lawS194073BWholeRow.laid ((laidW (World.holding Ybaf.prog os ⟨blocks, #[], []⟩) (World.settled Ybaf.prog os).heap.size).forCall (fun _ _ => 0) ⟨#[], args, []⟩).memory :=
  laidMet_of_run' 8 (by kernel_rfl) (by kernel_rfl)

end Go.Proofs.YbulkexofwFmt
