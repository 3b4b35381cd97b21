/-
  The walk of slices.Clone of strings (7).
-/
import Derived.Test.YbulkexohmBase
import Derived.Lib.Walk
import Derived.Lib.SliceRun
namespace Go.Proofs.Ybulkexohm
open Go.RowKit
set_option linter.unusedVariables false
theorem info9 : (Yba.prog.info? 9).map (fun i => (i.zero, i.size, i.bytes)) = some (some (.string ⟨#[]⟩), 1, 16) := by kernel_rfl
theorem strs_oneCell (l : List ByteArray) : ∀ u ∈ l.map Value.string, u.oneCell' = true := by
  intro u hu; obtain ⟨x, _, rfl⟩ := List.mem_map.1 hu; rfl
set_option maxRecDepth 100000 in
set_option maxHeartbeats 2000000 in
theorem clone_any (sb c : Nat) (l : List ByteArray) (w : World) (hl : l.length ≤ 3000000) (h1 : w.ownsRow 0 9 1 (.slice (some ⟨sb, 0, none⟩) l.length c) l.length (l.map .string)) :
    Calls Yba.prog 7 #[.slice (some ⟨sb, 0, none⟩) l.length c] w fun e w' => ∃ v, e = .returned v ∧ w'.ownsRow 0 9 1 v l.length (l.map .string) ∧ (∀ k, v.ownBlock = some k → w.heap.size ≤ k) ∧ Below w.heap.size w w' := by
  obtain ⟨i0, hi, hz0, hz1, hz2⟩ := info_parts info9
  have hn := Lib.run_eql_slice_nil w 29 9 (some ⟨sb, 0, none⟩) l.length c 0 0 Yba.underlying29
  have H1 : Hid (w.ownsRow 0 9 1 (.slice (some ⟨sb, 0, none⟩) l.length c) l.length (l.map .string)) := h1
  clear h1
  go_enter Yba.func7, Yba.ntmps7
  go_wp2_with (at_builtin; refine wpList_append_own _ rfl _ _ 29 rfl w.heap.size 9 i0 (.string ⟨#[]⟩) 1 16 Yba.underlying29 hi hz0 hz1 hz2 rfl (by decide) _ _ _ rfl (World.ownsRow_made w #[] 0 (Nat.le_refl _) (Nat.zero_le _) rfl) ⟨sb, 0, none⟩ l.length c (l.map Value.string) rfl ?qc1 ?qc2 ?qc3 ?qc4 ?qc5 ?qc6 ?_)
  case qc1 => simp
  case qc2 =>
    intro j u hj
    have hjn : j < l.length := by
      have := (List.getElem?_eq_some_iff.1 hj).1
      simpa using this
    rw [Addr.add_lit]
    refine Lib.cell?_alloc_some _ ?_
    rw [Nat.zero_add, H1.out.cellAt j (by omega), hj]
  case qc3 => exact strs_oneCell l
  case qc4 => unfold maxLen; omega
  case qc5 => omega
  case qc6 => simp
  intro v' w1 hown hgrow hnil
  go_wp2
  go_ret
  have hown' : w1.ownsRow w.heap.size 9 1 v' l.length (l.map .string) := by simpa using hown
  refine ⟨v', rfl, ?_, fun k hk => ?_, ?_⟩
  · refine ⟨hown'.1, ?_⟩
    rcases hown'.2 with h0 | ⟨g, cap, cur, rfl, _, r⟩
    · exact .inl h0
    · exact .inr ⟨g, cap, cur, rfl, Nat.zero_le _, r⟩
  · exact (hown'.lt k hk).1
  · exact ((Below.refl _ w).alloc (Nat.le_refl _) _).grown hgrow (by simp) (by intro k hk; simp [Value.ownBlock] at hk; omega)
end Go.Proofs.Ybulkexohm
