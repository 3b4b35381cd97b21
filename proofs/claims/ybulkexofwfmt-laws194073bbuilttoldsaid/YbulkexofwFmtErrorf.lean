/-
  fmt.Errorf at this program, by contracts: the stop 'fmt.errorf' told or not ('F' is any interpretation of the stops). Closed facts by the kernel; two walks.
-/
import Derived.Test.YbulkexofwFmtChecked
import Derived.Stop.CallBack
import Derived.Stop.IfaceNil
import GoSem.ClaimData
import Derived.WalkKit
namespace Go.Proofs.YbulkexofwFmt
open Go.RowKit Go.Extern.Stop Go.Stop Go.Extern

theorem call12 (args : Array Value) (w : World) : (callFunc 12 args).run Ybaf.prog w = ((FmtStop.errorf #[9, 40] #[26] args).run Ybaf.prog w).andThen fun v w' => .ok (.value v) w' :=
  run_callFunc_extern Ybaf.func12 (by kernel_rfl) (by kernel_rfl) (by kernel_rfl) (by kernel_rfl) args w
theorem guard (name : String) (w : World) : (FmtStop.guard name).run Ybaf.prog w = .ok () w := by kernel_rfl
theorem fmtA (w : World) : (FmtDoors.printed ⟨#[112, 111, 115, 105, 116, 105, 111, 110, 32, 37, 113, 32, 105, 115, 32, 110, 111, 116, 32, 70, 73, 76, 69, 58, 79, 70, 70, 83, 69, 84]⟩ 1).run Ybaf.prog w = .ok [(0, 113, false)] w := by kernel_rfl
theorem fmtB (w : World) : (FmtDoors.printed ⟨#[112, 111, 115, 105, 116, 105, 111, 110, 32, 37, 113, 32, 105, 115, 32, 110, 111, 116, 32, 70, 73, 76, 69, 58, 79, 70, 70, 83, 69, 84, 32, 119, 105, 116, 104, 32, 79, 70, 70, 83, 69, 84, 32, 97, 32, 110, 117, 109, 98, 101, 114, 32, 98, 101, 108, 111, 119, 32, 50, 94, 51, 50]⟩ 1).run Ybaf.prog w = .ok [(0, 113, false)] w := by kernel_rfl
def shape9 : List UInt8 := [12, 6, 0, 0, 0, 0, 0, 0, 0, 115, 116, 114, 105, 110, 103]
theorem op9 (name : String) (x : ByteArray) (w : World) : (FmtStop.operand name true 113 false (.iface 9 (.string x))).run Ybaf.prog w = .ok (shape9, FmtStop.pack x.data.toList) w := by kernel_rfl
theorem ptr44 (w : World) : (FmtStop.ptrTo "errors.errorString").run Ybaf.prog w = .ok 44 w := by kernel_rfl
theorem elem44 (w : World) : (elemOf 44).run Ybaf.prog w = .ok 46 w := by kernel_rfl
attribute [local go_sem] call12 guard fmtA fmtB op9 ptr44 elem44

theorem errorfA (F : Interp) (s : ByteArray) (blk : Nat) (w : World) (hF : F.answers w.tape) (hc : w.cell? ⟨blk, 0, none⟩ = some (.iface 9 (.string s))) :
    Calls Ybaf.prog 9 #[.string ⟨#[112, 111, 115, 105, 116, 105, 111, 110, 32, 37, 113, 32, 105, 115, 32, 110, 111, 116, 32, 70, 73, 76, 69, 58, 79, 70, 70, 83, 69, 84]⟩, .slice (some ⟨blk, 0, none⟩) 1 1] w fun e w' =>
      ∃ t, e = .returned (.iface 44 (.pointer (some ⟨w.heap.size, 0, none⟩))) ∧ w' = (w.alloc (.cells #[.string t] 46)).drew := by
  unfold Interp.answers at hF
  go_enter Ybaf.func9, Ybaf.ntmps9
  go_wp2
  go_ret
  exact ⟨_, rfl, rfl⟩

theorem errorfB (F : Interp) (s : ByteArray) (blk : Nat) (w : World) (hF : F.answers w.tape) (hc : w.cell? ⟨blk, 0, none⟩ = some (.iface 9 (.string s))) :
    Calls Ybaf.prog 9 #[.string ⟨#[112, 111, 115, 105, 116, 105, 111, 110, 32, 37, 113, 32, 105, 115, 32, 110, 111, 116, 32, 70, 73, 76, 69, 58, 79, 70, 70, 83, 69, 84, 32, 119, 105, 116, 104, 32, 79, 70, 70, 83, 69, 84, 32, 97, 32, 110, 117, 109, 98, 101, 114, 32, 98, 101, 108, 111, 119, 32, 50, 94, 51, 50]⟩, .slice (some ⟨blk, 0, none⟩) 1 1] w fun e w' =>
      ∃ t, e = .returned (.iface 44 (.pointer (some ⟨w.heap.size, 0, none⟩))) ∧ w' = (w.alloc (.cells #[.string t] 46)).drew := by
  unfold Interp.answers at hF
  go_enter Ybaf.func9, Ybaf.ntmps9
  go_wp2
  go_ret
  exact ⟨_, rfl, rfl⟩

end Go.Proofs.YbulkexofwFmt
