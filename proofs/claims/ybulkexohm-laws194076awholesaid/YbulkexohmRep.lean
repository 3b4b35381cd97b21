/-
  strings.Repeat of one letter, by the shelf's contract.
-/
import Derived.Test.YbulkexohmShelf
import Derived.Test.YbulkexohmBase
namespace Go.Proofs.Ybulkexohm
open Go.RowKit
theorem repeat_any (c : Nat) (w : World) (hc : c ≤ 140737488355328) :
    Calls Yba.prog 6 #[.string ⟨#[120]⟩, .int .i64 c] w fun e w' => ∃ s : ByteArray, e = .returned (.string s) ∧ s.size ≤ maxLen ∧ Below w.heap.size w w' := by
  refine (Any.strings_Repeat Yba.lays105 Yba.extra105 ⟨#[120]⟩ c w (by omega) (by show 1 * c ≤ _; omega)).mono ?_
  rintro e w' ⟨rfl, hb⟩
  refine ⟨_, rfl, ?_, hb⟩
  have h := Lib.repeatL_length (ByteArray.mk #[120]).data.toList c
  have h1 : (ByteArray.mk #[120]).data.toList.length = 1 := rfl
  show (Lib.repeatL _ c).toArray.size ≤ _
  rw [List.size_toArray, h, h1]
  unfold maxLen
  omega
end Go.Proofs.Ybulkexohm
