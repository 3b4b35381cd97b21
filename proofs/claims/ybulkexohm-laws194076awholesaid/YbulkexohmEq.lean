/-
  The walks of slices.Equal, of exclusions (10) and of strings (9), at two rows that read alike.
-/
import Derived.Test.YbulkexohmBase
namespace Go.Proofs.Ybulkexohm
open Go.RowKit
set_option linter.unusedVariables false
theorem row_form {w : World} {e size n : Nat} {v : Value} {xs : List Value} (h : w.ownsRow 0 e size v n xs) : ∃ a c, v = .slice a n c ∧ (0 < n → ∃ g, a = some ⟨g, 0, none⟩ ∧ g < w.heap.size) := by
  rcases h.2 with ⟨rfl, rfl⟩ | ⟨g, cap, cur, rfl, _, hg, _⟩
  · exact ⟨none, 0, rfl, fun h => absurd h (by omega)⟩
  · exact ⟨_, cap, rfl, fun _ => ⟨g, rfl, (Array.getElem?_eq_some_iff.1 hg).1⟩⟩
set_option maxRecDepth 100000 in
set_option maxHeartbeats 2000000 in
theorem eqx_any (v1 v2 : Value) (l : List Exc) (w : World) (hl : l.length ≤ 3000000) (h1 : XRow w v1 l) (h2 : XRow w v2 l) :
    Calls Yba.prog 10 #[v1, v2] w fun e w' => e = .returned (.bool true) ∧ Chg (fun _ => False) w w' := by
  obtain ⟨a1, c1, rfl, f1⟩ := row_form h1
  obtain ⟨a2, c2, rfl, f2⟩ := row_form h2
  go_enter Yba.func10, Yba.ntmps10
  go_wp2
  go_loopw [13] (fun i wr => ∃ k : Nat, k ≤ l.length ∧ i = .int .i64 k ∧ Chg (fun _ => False) w wr) (fun i _ => l.length - (intOf i).toNat)
  case atStart => exact ⟨0, Nat.zero_le _, rfl, Chg.refl _ _⟩
  case round =>
    obtain ⟨k, hk, rfl, hC⟩ := hrel
    by_cases hlt : k < l.length
    · obtain ⟨g1, rfl, l1⟩ := f1 (by omega)
      obtain ⟨g2, rfl, l2⟩ := f2 (by omega)
      obtain ⟨x, hx⟩ : ∃ x, l[k]? = some x := ⟨_, List.getElem?_eq_getElem hlt⟩
      obtain ⟨p0, p1, p2, p3⟩ := XRow.at (hC.row h1 (fun _ _ h => h)) hx
      obtain ⟨q0, q1, q2, q3⟩ := XRow.at (hC.row h2 (fun _ _ h => h)) hx
      have hs := hC.size
      have l1' : g1 < wr.heap.size := by omega
      have l2' : g2 < wr.heap.size := by omega
      go_wp2
      go_quiet (fail)
      go_wp2
      go_roundw
      case rel => exact ⟨k + 1, hlt, int_eq (by omega), hC.drewN _⟩
      case measure => simp [intOf]; omega
    · have ek : k = l.length := by omega
      go_wp2
      go_ret
      exact ⟨rfl, hC⟩
set_option maxRecDepth 100000 in
set_option maxHeartbeats 2000000 in
theorem eqs_any (v1 v2 : Value) (l : List ByteArray) (w : World) (hl : l.length ≤ 3000000) (h1 : w.ownsRow 0 9 1 v1 l.length (l.map .string)) (h2 : w.ownsRow 0 9 1 v2 l.length (l.map .string)) :
    Calls Yba.prog 9 #[v1, v2] w fun e w' => e = .returned (.bool true) ∧ Chg (fun _ => False) w w' := by
  obtain ⟨a1, c1, rfl, f1⟩ := row_form h1
  obtain ⟨a2, c2, rfl, f2⟩ := row_form h2
  go_enter Yba.func9, Yba.ntmps9
  go_wp2
  go_loopw [13] (fun i wr => ∃ k : Nat, k ≤ l.length ∧ i = .int .i64 k ∧ Chg (fun _ => False) w wr) (fun i _ => l.length - (intOf i).toNat)
  case atStart => exact ⟨0, Nat.zero_le _, rfl, Chg.refl _ _⟩
  case round =>
    obtain ⟨k, hk, rfl, hC⟩ := hrel
    by_cases hlt : k < l.length
    · obtain ⟨g1, rfl, l1⟩ := f1 (by omega)
      obtain ⟨g2, rfl, l2⟩ := f2 (by omega)
      obtain ⟨x, hx⟩ : ∃ x, l[k]? = some x := ⟨_, List.getElem?_eq_getElem hlt⟩
      have p0 : wr.cell? ⟨g1, k, none⟩ = some (.string x) := by rw [(hC.row h1 (fun _ _ h => h)).cellAt k (by omega), List.getElem?_map, hx]; rfl
      have q0 : wr.cell? ⟨g2, k, none⟩ = some (.string x) := by rw [(hC.row h2 (fun _ _ h => h)).cellAt k (by omega), List.getElem?_map, hx]; rfl
      have hs := hC.size
      have l1' : g1 < wr.heap.size := by omega
      have l2' : g2 < wr.heap.size := by omega
      go_wp2
      go_quiet (fail)
      go_wp2
      go_roundw
      case rel => exact ⟨k + 1, hlt, int_eq (by omega), hC.drewN _⟩
      case measure => simp [intOf]; omega
    · have ek : k = l.length := by omega
      go_wp2
      go_ret
      exact ⟨rfl, hC⟩
end Go.Proofs.Ybulkexohm
