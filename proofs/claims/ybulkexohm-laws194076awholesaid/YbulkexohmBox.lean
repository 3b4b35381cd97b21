/-
  The third loop's round: a history into the map.
-/
import Derived.Test.YbulkexohmPre
namespace Go.Proofs.Ybulkexohm
open Go.RowKit Go.Maps
set_option linter.unusedVariables false
section
variable {w : World} {DL : List DIn} {I : Nat} {kv lv : Value} {m : Nat} {KS : List ByteArray} {LS : List Nat} {T M MV MT MN : Nat} {ts sq ds : Int} {dm exv : Value} {ex : List Exc} {S : Nat → Prop} {VS : List Value} {hb g cap : Nat → Nat} {mvs mts mns : List Value} {nr nm n : Nat} {wr w' wA w1 : World}
theorem L3.map (h : L3 w DL I kv lv m KS LS T M MV MT MN ts sq ds exv ex S VS hb g cap mvs mts mns nr nm wr) : MapIs wr M (KS.take nr) VS := by
  rcases (h.real 0).drops with ⟨e, _⟩ | ⟨M', e, hM', _⟩
  · cases e
  · cases e; exact hM'
theorem L3.tab (h : L3 w DL I kv lv m KS LS T M MV MT MN ts sq ds exv ex S VS hb g cap mvs mts mns nr nm wr) : Tab wr T ts sq ds (.map (some M)) exv := (h.real 0).tab
theorem L3.nilKey (h : L3 w DL I kv lv m KS LS T M MV MT MN ts sq ds exv ex S VS hb g cap mvs mts mns n n wr) {s : ByteArray} (hs : KS[n]? = some s) (hh : (hists DL LS)[n]? = some none) (hm : MapIs w' M (KS.take n ++ [s]) (VS ++ [.pointer none])) (hg : wr.grownBy w' (some M)) :
    L3 w DL I kv lv m KS LS T M MV MT MN ts sq ds exv ex S (VS ++ [.pointer none]) hb g cap mvs mts mns (n + 1) (n + 1) w' :=
  (h.put hs hh ((grown_chg hg).mono (fun k _ e => by cases e; rfl)) hm (fun k hk => .inl hk) (fun k hk => hk) (fun j _ => ⟨rfl, rfl, rfl⟩) (fun _ => rfl) (fun x e => by cases e)).skip hh
set_option maxRecDepth 100000 in
theorem L3.box (h : L3 w DL I kv lv m KS LS T M MV MT MN ts sq ds exv ex S VS hb g cap mvs mts mns n nm wA) {s : ByteArray} (hs : KS[n]? = some s) (hsz : s.size ≤ maxLen) (hKl : KS.length ≤ 1048576) {x : Hist} (hh : (hists DL LS)[n]? = some (some x)) (h8 : x.vs.length ≤ 8) {g1 : Nat}
    (hB : Below wA.heap.size wA w1) (hr : VRow w1 (.slice (some ⟨g1, 0, none⟩) x.vs.length x.vs.length) x.vs) (hg : wA.heap.size ≤ g1) :
    ∃ w3, (Instr.mapUpdate 57 (.map (some M)) (.string s) (.pointer (some ⟨w1.heap.size, 0, none⟩))).run Yba.prog (w1.alloc (.cells #[.slice (some ⟨g1, 0, none⟩) x.vs.length x.vs.length, .bool x.tr, .int .u64 x.nt, .int .u64 x.wb, .int .u64 x.hs, .int .u64 x.dt] 74)) = .ok () w3 ∧
      (∃ S' hb' g' cap' v, L3 w DL I kv lv m KS LS T M MV MT MN ts sq ds exv ex S' (VS ++ [v]) hb' g' cap' mvs mts mns (n + 1) nm w3) ∧ Chg (fun k => k = M) wA w3 := by
  have hc1 : Chg (fun _ => False) wA w1 := Chg.ofBelow hB _
  have hl := hc1.size
  have hfr := h.l2.fresh hs
  have hM2 := (h.map.same (w' := w1.alloc (.cells #[.slice (some ⟨g1, 0, none⟩) x.vs.length x.vs.length, .bool x.tr, .int .u64 x.nt, .int .u64 x.wb, .int .u64 x.hs, .int .u64 x.dt] 74)) (by rw [Below.heap_alloc _ _ _ (Nat.lt_of_lt_of_le h.map.lt hl)]; exact hc1.block M h.map.lt (fun u => u)))
  obtain ⟨w3, hrun, hm3, hg3⟩ := hM2.put (t := 57) (e := 70) Yba.underlying57 (by rw [List.length_take]; unfold maxLen; omega) hsz hfr (v := .pointer (some ⟨w1.heap.size, 0, none⟩)) (d := .agg [.lit (.int .i64 w1.heap.size)]) rfl
  have hcA : Chg (fun k => k = M) w1 w3 := (Chg.alloc _ w1 _).trans ((grown_chg hg3).mono (fun k _ e => by cases e; rfl))
  have hc : Chg (fun k => k = M) wA w3 := (hc1.mono (fun _ _ u => u.elim)).trans hcA
  have hMl := h.map.lt
  obtain ⟨C, hC⟩ := row_block hr
  have hg1l : g1 < w1.heap.size := (Array.getElem?_eq_some_iff.1 hC).1
  have hsz3 := hg3.size
  have esz : ∀ o, (w1.alloc o).heap.size = w1.heap.size + 1 := fun o => by simp
  rw [esz] at hsz3
  refine ⟨w3, hrun, ⟨fun k => S k ∨ k = w1.heap.size ∨ k = g1, fun j => if j = n then w1.heap.size else hb j, fun j => if j = n then g1 else g j, fun j => if j = n then x.vs.length else cap j, _, h.put hs hh hc hm3 (fun k hk => ?_) (fun k hk => .inl hk) (fun j hj => ?_) (fun e => by cases e) (fun y e => ?_)⟩, hc⟩
  · rcases hk with hk | rfl | rfl
    · exact .inl hk
    · exact .inr ⟨hl, by omega⟩
    · exact .inr ⟨hg, by omega⟩
  · have e : ¬ j = n := by omega
    exact ⟨if_neg e, if_neg e, if_neg e⟩
  · cases e
    simp only [↓reduceIte]
    refine ⟨trivial, ⟨?_, ?_⟩, h8, fun _ => trivial, .inr (.inl trivial), .inr (.inr trivial), hl, hg⟩
    · unfold HistAt
      rw [hg3.block w1.heap.size (by rw [esz]; omega) (by intro e; cases e; omega)]
      exact heap_alloc_new w1 _
    · exact hcA.row hr (fun k hk e => by simp [Value.ownBlock] at hk; omega)
end
end Go.Proofs.Ybulkexohm
