/-
  The walk of zzs194076aexcl (4).
-/
import Derived.Test.YbulkexohmBase


namespace Go.Proofs.Ybulkexohm
open Go.RowKit
def base0 (n : Nat) : List Exc := (List.range n).map fun (i : Nat) => Exc.mk ⟨#[112]⟩ ⟨#[116]⟩ (i : Int) false
theorem base0_length (n : Nat) : (base0 n).length = n := by simp [base0]
theorem base0_succ (n : Nat) : base0 (n + 1) = base0 n ++ [⟨⟨#[112]⟩, ⟨#[116]⟩, (n : Int), false⟩] := by simp [base0, List.range_succ]
theorem info86 : (Yba.prog.info? 86).map (fun i => (i.zero, i.size, i.bytes)) = some (some (.agg #[.string ⟨#[]⟩, .string ⟨#[]⟩, .int .u64 0, .bool false]), 4, 48) := by kernel_rfl
theorem new_at (w : World) (cs : List Value) (t : TypeId) : ∀ j u, cs[j]? = some u → (w.alloc (.cells cs.toArray t)).cell? ((⟨w.heap.size, 0, none⟩ : Addr).add j) = some u := by
  intro j u hj
  have h := World.news_of_block (heap_alloc_new w (.cells cs.toArray t))
  exact h j u (by simpa using hj)

theorem xrow_step {B : Nat} {w wr w1 : World} {v : Value} {o : Obj} {l l' : List Exc} {x : Exc} {g cap H : Nat} (hl : l' = l ++ [x])
    (hown1 : w1.ownsRow 0 86 4 (.slice (some ⟨g, 0, none⟩) (l.length + 1) cap) (l.length + 1) (xcells l ++ x.cells)) (hgrow : (wr.alloc o).grownBy w1 v.ownBlock) (hat : v.ownBlock = some g ∨ g = wr.heap.size + H)
    (hnew : ∀ j, v.ownBlock = some j → B ≤ j) (hb : Below B w wr) (hB : B ≤ wr.heap.size) :
    XRow w1 (.slice (some ⟨g, 0, none⟩) (l.length + 1) cap) l' ∧ (∀ j, (Value.slice (some ⟨g, 0, none⟩) (l.length + 1) cap).ownBlock = some j → B ≤ j) ∧ Below B w w1 := by
  refine ⟨?_, fun j hj => ?_, (hb.alloc hB o).grown hgrow (by simp; omega) hnew⟩
  · subst hl
    rw [xcells_snoc] at hown1
    show w1.ownsRow 0 86 4 _ (l ++ [x]).length _
    rw [List.length_append]
    exact hown1
  · simp [Value.ownBlock] at hj
    subst hj
    rcases hat with h | h
    · exact hnew _ h
    · omega
set_option maxHeartbeats 1000000 in
theorem excl_any (n : Nat) (w : World) (hn : n ≤ 255) :
    Calls Yba.prog 4 #[.int .u8 n] w fun e w' => ∃ sv, e = .returned sv ∧ XRow w' sv (base0 n) ∧ (∀ k, sv.ownBlock = some k → w.heap.size ≤ k) ∧ Below w.heap.size w w' := by
  obtain ⟨i0, hi, hz0, hz1, hz2⟩ := info_parts info86
  go_enter Yba.func4, Yba.ntmps4
  go_wp2
  go_loopw [3, 4] (fun v i wr => ∃ k : Nat, k ≤ n ∧ i = .int .i64 k ∧ XRow wr v (base0 k) ∧ (∀ j, v.ownBlock = some j → w.heap.size ≤ j) ∧ Below w.heap.size w wr) (fun _ i _ => n - (intOf i).toNat)
  case atStart => exact ⟨0, Nat.zero_le _, rfl, World.ownsRow_nil w 0 86 4, fun j hj => by simp [Value.ownBlock] at hj, Below.refl _ _⟩
  case round =>
    obtain ⟨k, hk, rfl, hown, hnew, hb⟩ := hrel
    have hl := base0_length k
    by_cases hlt : k < n
    · go_wp2_with (at_builtin; refine wpList_append_lies _ rfl (.tmp 11) (.tmp 17) 62 rfl 0 86 i0 _ 4 48 Yba.underlying62 hi hz0 hz1 hz2 rfl (by decide) _ _ _ rfl (hown.alloc _) ⟨wr.heap.size, 0, none⟩ 1 1 (Exc.mk ⟨#[112]⟩ ⟨#[116]⟩ (k : Int) false).cells rfl rfl (new_at _ _ _) (Exc.oneCell _) (by omega) (by unfold maxLen; omega) (by omega) (Nat.zero_le _) (wr.heap.size + 1) (by simp) ?_; intro g cap w1 hown1 hgrow hat hgl)
      have R := xrow_step (base0_succ k) hown1 hgrow hat hnew hb hb.size
      simp only [hl] at R
      go_roundw
      case rel => exact ⟨k + 1, by omega, int_eq (by omega), R.1, R.2.1, R.2.2⟩
      case measure => simp [intOf]; omega
    · have ek : k = n := by omega
      subst ek
      go_wp2
      go_ret
      exact ⟨_, rfl, hown, hnew, hb⟩
end Go.Proofs.Ybulkexohm
