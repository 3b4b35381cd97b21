/-
  The walk of (*history).push (25) onto a full history: copy, cut, append in place.
-/
import Derived.Test.YbulkexohmPush
namespace Go.Proofs.Ybulkexohm
open Go.RowKit
set_option linter.unusedVariables false
theorem mid_copy {w : World} {hb g : Nat} {sv : Value} {tr : Bool} {nt wb hs dt : Int} {vs : List Ver} {v : Ver} {W w2 : World} (h : Mid w hb g sv tr nt wb hs dt vs v W) (hn : vs.length = 8) (hlt : hb < w.heap.size) (hg : g < w.heap.size) (hne : hb ≠ g)
    (e : w2 = W.setCells g 0 (vcells vs.tail)) : Mid w hb g sv tr nt wb hs dt (vs.tail ++ [vs.getD 7 zver]) v w2 := by
  subst e
  refine h.row hlt hg hne ?_ (chg_setCells (S := fun k => k = g) rfl _ _ (Chg.refl _ _))
  have := own_setCells (vcells vs.tail) 0 W _ h.own
  rw [setList_tail vs hn] at this
  exact this
theorem mid_cut {w : World} {hb g : Nat} {sv sv' : Value} {tr : Bool} {nt wb hs dt : Int} {l : List Ver} {v : Ver} {W : World} (h : Mid w hb g sv tr nt wb hs dt l v W) (hlt : hb < w.heap.size) (hne : hb ≠ g) :
    Mid w hb g sv' true nt wb hs dt l v ((W.setCell ⟨hb, 0, none⟩ sv').setCell ⟨hb, 1, none⟩ (.bool true)).drew :=
  (h.step hlt hne (hist_set1 (hist_set0 h.hist sv') true) (((Chg.refl (fun k => k = hb) W).setCell ⟨hb, 0, none⟩ _ (fun _ => rfl)).setCell ⟨hb, 1, none⟩ _ (fun _ => rfl))).drew
theorem box_at {W : World} {v : Ver} {b : Nat} (h : W.heap[b]? = some (.cells v.cells.toArray 82 (0, 0))) : VerAt W b 0 v := by
  constructor <;> simp [World.cell?, h, Ver.cells]
theorem tail_set (vs : List Ver) (x v : Ver) (hn : vs.length = 8) : (vs.tail ++ [x]).set 7 v = vs.tail ++ [v] := by
  rw [List.set_append_right _ _ (by rw [List.length_tail]; omega), List.length_tail, hn]
  rfl
theorem mid_app {w : World} {hb g : Nat} {sv : Value} {tr : Bool} {nt wb hs dt : Int} {vs : List Ver} {x v : Ver} {W w4 : World} (h : Mid w hb g sv tr nt wb hs dt (vs.tail ++ [x]) v W) (hn : vs.length = 8) (hlt : hb < w.heap.size) (hg : g < w.heap.size) (hne : hb ≠ g)
    (e : w4 = W.setCells g (0 + 7 * 10) v.cells) : Mid w hb g sv tr nt wb hs dt (vs.tail ++ [v]) v w4 := by
  subst e
  refine h.row hlt hg hne ?_ (chg_setCells (S := fun k => k = g) rfl _ _ (Chg.refl _ _))
  have := own_setCells v.cells (7 * 10) W _ h.own
  rw [setList_vcells _ 7 v (by simp [hn]), tail_set vs x v hn] at this
  rw [Nat.zero_add]
  exact this
theorem spare_at {w : World} {g : Nat} {l : List Ver} {v : Ver} (h : w.ownsRow 0 82 10 (.slice (some ⟨g, 0, none⟩) 8 8) 8 (vcells l)) : ∀ j, j < v.cells.length → (w.cell? ⟨g, 0 + 7 * 10 + j, none⟩).isSome = true ∧ w.frozen? ⟨g, 0 + 7 * 10 + j, none⟩ = false := fun j hj => by
  rw [Ver.cells_length] at hj
  exact row_there h _ (by omega)
theorem full_end {w : World} {hb g : Nat} {sv : Value} {nt wb hs dt X : Int} {vs : List Ver} {v : Ver} {W : World} (h : Mid w hb g sv true nt wb hs dt (vs.tail ++ [v]) v W) (hn : vs.length = 8) (hlt : hb < w.heap.size) (hne : hb ≠ g) (hg : g < w.heap.size) (hX : X = max nt v.ts) :
    Pushed hb (vs.tail ++ [v]) true (max nt v.ts) wb hs dt (fun k => k = g) w (.returned (.tuple #[])) ((W.setCell ⟨hb, 0, none⟩ (.slice (some ⟨g, 0, none⟩) 8 8)).setCell ⟨hb, 2, none⟩ (.int .u64 X)).drew := by
  have hM := (h.step hlt hne (hist_set2 (hist_set0 h.hist (.slice (some ⟨g, 0, none⟩) 8 8)) X) (((Chg.refl (fun k => k = hb) W).setCell ⟨hb, 0, none⟩ _ (fun _ => rfl)).setCell ⟨hb, 2, none⟩ _ (fun _ => rfl))).drew
  have el : (vs.tail ++ [v]).length = 8 := by simp [hn]
  refine ⟨rfl, g, 8, ?_, ?_, .inr rfl, Ne.symm hne, hM.chg⟩
  · rw [el, ← hX]; exact hM.hist
  · unfold VRow; rw [el]; exact hM.own
set_option maxRecDepth 100000 in
set_option maxHeartbeats 4000000 in
theorem push_full (hb g : Nat) (vs : List Ver) (tr : Bool) (nt wb hs dt : Int) (v : Ver) (w : World) (hn : vs.length = 8) (hH : HistAt w hb (.slice (some ⟨g, 0, none⟩) 8 8) tr nt wb hs dt)
    (hown : w.ownsRow 0 82 10 (.slice (some ⟨g, 0, none⟩) 8 8) 8 (vcells vs)) (hne : hb ≠ g) :
    Calls Yba.prog 25 #[.pointer (some ⟨hb, 0, none⟩), v.val] w (Pushed hb (vs.tail ++ [v]) true (max nt v.ts) wb hs dt (fun k => k = g) w) := by
  obtain ⟨i0, hi, hz0, hz1, hz2⟩ := info_parts info82
  have hlt := hH.lt
  have hgl : g < w.heap.size := (hown.lt g rfl).2
  obtain ⟨c0, c1, c2, c3, c4, c5, hF⟩ := hH.cells
  have hV : v.val = .agg #[.int .u64 v.ts, .int .u64 v.sq, .string v.sc, .string v.tb, .pointer none, .bool v.dr, .bool false, .bool false, .int .u64 0, .slice none 0 0] := rfl
  rw [hV]
  clear hV
  have HN : Hid (vs.length = 8) := hn
  clear hn
  have hM0 : Mid w hb g (.slice (some ⟨g, 0, none⟩) 8 8) tr nt wb hs dt vs v (w.alloc (.cells v.cells.toArray 82)) :=
    ⟨hH.same (Below.heap_alloc _ _ _ hlt), hown.alloc _, Chg.alloc _ _ _, heap_alloc_new w _⟩
  have HM0 : Hid (Mid w hb g (.slice (some ⟨g, 0, none⟩) 8 8) tr nt wb hs dt vs v (w.alloc (.cells v.cells.toArray 82)).drew) := hM0.drew
  clear hM0
  go_enter Yba.func25, Yba.ntmps25
  go_wp2
  go_region_law (refine step_copy_on rfl (.tmp 13) (.tmp 18) 71 71 rfl 82 10 Yba.underlying71 size82 g 0 8 8 7 7 ⟨g, 10, none⟩ (by rfl) (by rfl) (vcells vs.tail) (by rw [vcells_length, List.length_tail, HN.out]; rfl) (tail_src HM0.out.own HN.out) (fun j hj => by rw [Nat.zero_add]; exact (row_there HM0.out.own j (by rw [vcells_length, List.length_tail, HN.out] at hj; omega)).1) (fun j hj => HM0.out.own.frozenAt _) (vcells_oneCell _) ?_; intro w2 hw2; have hM2 := mid_copy HM0.out HN.out hlt hgl hne hw2; clear hw2; obtain ⟨d0, d1, d2, d3, d4, d5, dF⟩ := hM2.hist.cells; have hl2 : hb < w2.heap.size := hM2.hist.lt; have HM2 : Hid (Mid _ _ _ _ _ _ _ _ _ _ _ _) := hM2; clear hM2)
  all_goals go_wp2
  all_goals go_region
  all_goals go_wp2
  all_goals
    have hM3 := mid_cut (sv' := .slice (some ⟨g, 0, none⟩) 7 8) HM2.out hlt hne
    generalize ((w2.setCell ⟨hb, 0, none⟩ (.slice (some ⟨g, 0, none⟩) 7 8)).setCell ⟨hb, 1, none⟩ (.bool true)).drew = w3 at hM3 ⊢
    clear HM2 HM0 d0 d1 d2 d3 d4 d5 dF hl2 c0 c1 c2 c3 c4 c5 hF
    obtain ⟨f0, f1, f2, f3, f4, f5, fF⟩ := hM3.hist.cells
    obtain ⟨b0, b1, b2, b3, b4, b5, b6, b7, b8, b9⟩ := box_at hM3.box
    have hl3 : hb < w3.heap.size := hM3.hist.lt
    have hl3' : w.heap.size < w3.heap.size := (Array.getElem?_eq_some_iff.1 hM3.box).1
    have HM3 : Hid (Mid w hb g (.slice (some ⟨g, 0, none⟩) 7 8) true nt wb hs dt (vs.tail ++ [vs.getD 7 zver]) v (w3.alloc (.cells v.cells.toArray 82)).drew) := (hM3.alloc hlt hne _).drew
    clear hM3
    go_region_law (refine step_append_on rfl (.tmp 41) (.tmp 43) 71 rfl 82 i0 10 Yba.underlying71 hi hz1 g 0 7 8 (by rfl) ⟨w3.heap.size, 0, none⟩ 1 1 v.cells (by rfl) rfl (new_at_eq w3 v.cells 82 _ rfl) (Ver.oneCell v) (by omega) (spare_at HM3.out.own) ?_; intro w4 hw4; have hM4 := mid_app HM3.out HN.out hlt hgl hne hw4; clear hw4; obtain ⟨d0, d1, d2, d3, d4, d5, dF⟩ := hM4.hist.cells; have hl4 : hb < w4.heap.size := hM4.hist.lt; have e0 := (box_at hM4.box).c0; have HM4 : Hid (Mid _ _ _ _ _ _ _ _ _ _ _ _) := hM4; clear hM4)
    all_goals go_wp2
    all_goals go_region
    all_goals go_wp2
    all_goals (go_end0; exact full_end HM4.out HN.out hlt hne hgl (by omega))
end Go.Proofs.Ybulkexohm
