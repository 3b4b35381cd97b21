/-
  The walks of the small functions: zzs194076aveq (11) at one version twice, (*history).newest (18).
-/
import Derived.Test.YbulkexohmBase
namespace Go.Proofs.Ybulkexohm
open Go.RowKit

set_option maxHeartbeats 1000000 in
theorem veq_any (v : Ver) (w : World) : Calls Yba.prog 11 #[v.val, v.val] w fun e w' => e = .returned (.bool true) ∧ Below w.heap.size w w' := by
  unfold Ver.val
  go_enter Yba.func11, Yba.ntmps11
  go_wp2
  go_ret
  exact ⟨rfl, ((Below.refl _ w).alloc (Nat.le_refl _) _).alloc (by simp) _⟩

set_option maxHeartbeats 1000000 in
theorem newest_nil (w : World) : Calls Yba.prog 18 #[.pointer none] w fun e w' => (∃ v : Ver, e = .returned (.tuple #[v.val, .bool false])) ∧ Below w.heap.size w w' := by
  go_enter Yba.func18, Yba.ntmps18
  go_wp2
  exact bodyPost_ret (v := .tuple #[(Ver.mk 0 0 ⟨#[]⟩ ⟨#[]⟩ false).val, .bool false]) (by simp [results, Yba.results18, go_sem, Ver.val]) rfl ⟨⟨_, rfl⟩, (Below.refl _ w).alloc (Nat.le_refl _) _⟩

set_option maxHeartbeats 1000000 in
theorem newest_empty (hb : Nat) (ao : Option Addr) (cap : Nat) (w : World) (hbw : hb < w.heap.size) (hc : w.cell? ⟨hb, 0, none⟩ = some (.slice ao 0 cap)) :
    Calls Yba.prog 18 #[.pointer (some ⟨hb, 0, none⟩)] w fun e w' => (∃ v : Ver, e = .returned (.tuple #[v.val, .bool false])) ∧ Below w.heap.size w w' := by
  go_enter Yba.func18, Yba.ntmps18
  go_wp2
  exact bodyPost_ret (v := .tuple #[(Ver.mk 0 0 ⟨#[]⟩ ⟨#[]⟩ false).val, .bool false]) (by simp [results, Yba.results18, go_sem, Ver.val]) rfl ⟨⟨_, rfl⟩, (Below.refl _ w).alloc (Nat.le_refl _) _⟩

set_option maxHeartbeats 2000000 in
theorem newest_some (hb g n cap : Nat) (v : Ver) (w : World) (hn : n < 1000) (hbw : hb < w.heap.size) (hgw : g < w.heap.size)
    (hc : w.cell? ⟨hb, 0, none⟩ = some (.slice (some ⟨g, 0, none⟩) (n + 1) cap)) (hv : VerAt w g (n * 10) v) :
    Calls Yba.prog 18 #[.pointer (some ⟨hb, 0, none⟩)] w fun e w' => e = .returned (.tuple #[v.val, .bool true]) ∧ Below w.heap.size w w' := by
  obtain ⟨c0, c1, c2, c3, c4, c5, c6, c7, c8, c9⟩ := hv
  go_enter Yba.func18, Yba.ntmps18
  go_wp2
  go_region
  go_wp2
  exact bodyPost_ret (v := .tuple #[v.val, .bool true]) (by simp [results, Yba.results18, go_sem, Ver.val]) rfl ⟨rfl, ((Below.refl _ w).alloc (Nat.le_refl _) _).drew⟩
end Go.Proofs.Ybulkexohm
