/-
  The walk of (*Tables).holdDrop (19), on the road that this law takes: the history is there.
-/
import Derived.Test.YbulkexohmHist
namespace Go.Proofs.Ybulkexohm
open Go.RowKit Go.Maps
set_option linter.unusedVariables false
theorem or_map {a b c d : Prop} (h : a ∨ b) (f : a → c) (g : b → d) : c ∨ d := h.elim (fun x => .inl (f x)) (fun x => .inr (g x))
/-- What stands in the midst of holdDrop. -/
structure HMid (w : World) (T hb g g' cap : Nat) (ts sq ds : Int) (dm exv exw : Value) (ex : List Exc) (h : Hist) (v : Ver) (W : World) : Prop where
  tab : Tab W T ts sq ds dm exw
  row : XRow W exv ex
  hist : HistIs W hb g' cap h
  chg : Chg (fun k => k = T ∨ k = hb ∨ k = g ∨ exw.ownBlock = some k) w W
  box : W.heap[w.heap.size]? = some (.cells v.cells.toArray 82 (0, 0))
theorem XRow.type {w : World} {v : Value} {e size n b : Nat} {xs : List Value} (h : w.ownsRow 0 e size v n xs) {C : Array Value} {t : TypeId} {fr : Nat × Nat} (hb : w.heap[b]? = some (.cells C t fr)) (ht : t ≠ e) : v.ownBlock ≠ some b := fun he => by
  rcases h.2 with ⟨rfl, _⟩ | ⟨g, cap, cur, rfl, _, hg, _⟩
  · simp [Value.ownBlock] at he
  · simp [Value.ownBlock] at he
    subst he
    rw [hb] at hg
    injection hg with hg
    injection hg with _ h2 _
    exact ht h2
theorem HMid.first {w w2 : World} {T hb g g' cap : Nat} {ts sq ds : Int} {dm exv : Value} {ex : List Exc} {h h' : Hist} {v : Ver} (hT : Tab w T ts sq ds dm exv) (hX : XRow w exv ex) (hH : HistIs w hb g h.vs.length h)
    (r1 : HistIs w2 hb g' cap h') (r3 : Chg (fun k => k = hb ∨ k = g) (w.alloc (.cells v.cells.toArray 82)) w2) : HMid w T hb g g' cap ts sq ds dm exv exv ex h' v w2 := by
  have hl := hH.lt
  obtain ⟨C, hC⟩ := VRow.block hH.row
  have hat := hH.at_
  unfold HistAt at hat
  have hTb := hT.type hat (by decide)
  have hTg := hT.type hC (by decide)
  have hXb := XRow.type hX hat (by decide)
  have hXg := XRow.type hX hC (by decide)
  have hcc : Chg (fun k => k = T ∨ k = hb ∨ k = g ∨ exv.ownBlock = some k) w w2 := (Chg.alloc _ w _).andThen r3 (fun i hi h => .inr (h.elim .inl (fun h => .inr (.inl h))))
  refine ⟨hT.same ?_, r3.row (hX.alloc _) (fun k hk e => ?_), r1, hcc, ?_⟩
  · rw [r3.block T (by have := hT.lt; simp; omega) (by omega), Below.heap_alloc _ _ _ hT.lt]
  · rcases e with rfl | rfl
    · exact hXb hk
    · exact hXg hk
  · rw [r3.block w.heap.size (by simp) (by omega)]; exact heap_alloc_new w _
/-- Behind the new schemaDropSeq and the new key. -/
theorem HMid.second {w w2 : World} {T hb g g' cap : Nat} {ts sq ds x : Int} {dm exv : Value} {ex : List Exc} {h : Hist} {v : Ver} (hM : HMid w T hb g g' cap ts sq ds dm exv exv ex h v w2) (hlt : T < w.heap.size) (o : Obj) :
    HMid w T hb g g' cap ts sq x dm exv exv ex h v ((w2.setCell ⟨T, 69, none⟩ (.int .u64 x)).alloc o).drew := by
  have hl := hM.hist.lt
  obtain ⟨C, hC⟩ := VRow.block hM.hist.row
  have hat := hM.hist.at_
  unfold HistAt at hat
  have hTb := hM.tab.type hat (by decide)
  have hTg := hM.tab.type hC (by decide)
  obtain ⟨D, hD, _⟩ := id hM.tab
  have hXT := XRow.type hM.row hD (by decide)
  have hc : Chg (fun k => k = T) w2 (w2.setCell ⟨T, 69, none⟩ (.int .u64 x)) := (Chg.refl _ _).setCell _ _ (fun _ => rfl)
  have hc2 := (hc.trans (Chg.alloc _ _ o)).drew
  refine ⟨(hM.tab.set69 x).same ?_, hc2.row hM.row (fun k hk e => hXT (e ▸ hk)), hM.hist.same (hc2.block _ hl.1 (Ne.symm hTb)) (hc2.block _ hl.2 (Ne.symm hTg)), hM.chg.andThen hc2 (fun _ _ e => .inl e), (hc2.block _ (Array.getElem?_eq_some_iff.1 hM.box).1 (by omega)).trans hM.box⟩
  exact Below.heap_alloc _ _ _ (hM.tab.set69 x).lt
theorem HMid.last {w w3 w4 : World} {T hb g g' cap cp ge : Nat} {ts sq ds : Int} {dm exv : Value} {ex : List Exc} {h : Hist} {v : Ver} {x : Exc} {o : Obj} (hM : HMid w T hb g g' cap ts sq ds dm exv exv ex h v w3) (hlt : T < w.heap.size)
    (hown : w4.ownsRow 0 86 4 (.slice (some ⟨ge, 0, none⟩) (ex.length + 1) cp) (ex.length + 1) (xcells ex ++ x.cells)) (hg : (w3.alloc o).drew.grownBy w4 exv.ownBlock) :
    HMid w T hb g g' cap ts sq ds dm (.slice (some ⟨ge, 0, none⟩) (ex.length + 1) cp) exv (ex ++ [x]) h v w4 := by
  have hl := hM.hist.lt
  obtain ⟨C, hC⟩ := VRow.block hM.hist.row
  have hat := hM.hist.at_
  unfold HistAt at hat
  have hXb := XRow.type hM.row hat (by decide)
  have hXg := XRow.type hM.row hC (by decide)
  obtain ⟨D, hD, _⟩ := id hM.tab
  have hXT := XRow.type hM.row hD (by decide)
  have hXB := XRow.type hM.row hM.box (by decide)
  have hc0 : Chg (fun k => exv.ownBlock = some k) w3 (w3.alloc o).drew := (Chg.alloc _ w3 o).drew
  have hc : Chg (fun k => exv.ownBlock = some k) w3 w4 := hc0.grown hg (fun k hk _ => hk)
  refine ⟨hM.tab.same (hc.block _ hM.tab.lt hXT), ?_, hM.hist.same (hc.block _ hl.1 hXb) (hc.block _ hl.2 hXg), hM.chg.andThen hc (fun _ _ e => .inr (.inr (.inr e))), (hc.block _ (Array.getElem?_eq_some_iff.1 hM.box).1 hXB).trans hM.box⟩
  rw [xcells_snoc] at hown
  show w4.ownsRow 0 86 4 _ (ex ++ [x]).length _
  rw [List.length_append]
  exact hown
theorem hold_end {w W : World} {T hb g g' cap ge n cp : Nat} {ts sq ds : Int} {dm exv : Value} {ex : List Exc} {h : Hist} {v : Ver} (hM : HMid w T hb g g' cap ts sq ds dm (.slice (some ⟨ge, 0, none⟩) n cp) exv ex h v W) (hlt : T < w.heap.size)
    (r2 : w.heap.size ≤ g' ∨ g' = g) (r4 : w.heap.size ≤ ge ∨ exv.ownBlock = some ge) :
    ∃ exv' g' cap', Tab (W.setCell ⟨T, 61, none⟩ (.slice (some ⟨ge, 0, none⟩) n cp)) T ts sq ds dm exv' ∧ XRow (W.setCell ⟨T, 61, none⟩ (.slice (some ⟨ge, 0, none⟩) n cp)) exv' ex ∧ HistIs (W.setCell ⟨T, 61, none⟩ (.slice (some ⟨ge, 0, none⟩) n cp)) hb g' cap' h ∧ (w.heap.size ≤ g' ∨ g' = g) ∧ (∀ k, exv'.ownBlock = some k → w.heap.size ≤ k ∨ exv.ownBlock = some k) ∧ Chg (fun k => k = T ∨ k = hb ∨ k = g ∨ exv.ownBlock = some k) w (W.setCell ⟨T, 61, none⟩ (.slice (some ⟨ge, 0, none⟩) n cp)) := by
  have hl := hM.hist.lt
  obtain ⟨C, hC⟩ := VRow.block hM.hist.row
  have hat := hM.hist.at_
  unfold HistAt at hat
  have hTb := hM.tab.type hat (by decide)
  have hTg := hM.tab.type hC (by decide)
  obtain ⟨D, hD, _⟩ := id hM.tab
  have hXT := XRow.type hM.row hD (by decide)
  have hc : Chg (fun k => k = T) W (W.setCell ⟨T, 61, none⟩ (.slice (some ⟨ge, 0, none⟩) n cp)) := (Chg.refl (fun k => k = T) W).setCell ⟨T, 61, none⟩ _ (fun _ => rfl)
  refine ⟨_, g', cap, hM.tab.set61 _, hc.row hM.row (fun k hk e => hXT (e ▸ hk)), hM.hist.same (hc.block _ hl.1 (Ne.symm hTb)) (hc.block _ hl.2 (Ne.symm hTg)), r2, fun k hk => ?_, hM.chg.andThen hc (fun _ _ e => .inl e)⟩
  simp [Value.ownBlock] at hk
  subst hk
  exact r4
theorem key_at (w : World) (s : ByteArray) (x : Int) (W : World) (hW : W = (w.alloc (.cells #[.string s, .string ⟨#[]⟩, .int .u64 x] 84)).drew) : W.cell? ⟨w.heap.size, 0, none⟩ = some (.string s) ∧ W.cell? ⟨w.heap.size, 1, none⟩ = some (.string ⟨#[]⟩) ∧ W.cell? ⟨w.heap.size, 2, none⟩ = some (.int .u64 x) ∧ w.heap.size < W.heap.size := by
  subst hW
  have h : (w.alloc (.cells #[.string s, .string ⟨#[]⟩, .int .u64 x] 84)).drew.heap[w.heap.size]? = some (.cells #[.string s, .string ⟨#[]⟩, .int .u64 x] 84 (0, 0)) := heap_alloc_new w _
  refine ⟨?_, ?_, ?_, (Array.getElem?_eq_some_iff.1 h).1⟩ <;> (unfold World.cell?; rw [h]; rfl)
theorem size_set (w : World) (a : Addr) (u : Value) : (w.setCell a u).heap.size = w.heap.size := by simp [World.setCell]
set_option maxRecDepth 100000 in
set_option maxHeartbeats 4000000 in
theorem hold_any (T M j hb g : Nat) (ts sq ds : Int) (exv : Value) (ex : List Exc) (KS : List ByteArray) (VS : List Value) (s : ByteArray) (h : Hist) (v : Ver) (w : World)
    (hT : Tab w T ts sq ds (.map (some M)) exv) (hX : XRow w exv ex) (hM : MapIs w M KS VS) (hs : s.size ≤ maxLen) (hj : KS[j]? = some s) (hv : VS[j]? = some (.pointer (some ⟨hb, 0, none⟩)))
    (h8 : h.vs.length ≤ 8) (hH : HistIs w hb g h.vs.length h) (hex : ex.length ≤ 3000000) :
    Calls Yba.prog 19 #[.pointer (some ⟨T, 0, none⟩), .string s, v.val] w fun e w' => e = .returned (.tuple #[]) ∧ ∃ exv' g' cap', Tab w' T ts sq (max ds v.sq) (.map (some M)) exv' ∧ XRow w' exv' (ex ++ [⟨s, ⟨#[]⟩, v.sq, true⟩]) ∧ HistIs w' hb g' cap' (h.push v) ∧ (w.heap.size ≤ g' ∨ g' = g) ∧ (∀ k, exv'.ownBlock = some k → w.heap.size ≤ k ∨ exv.ownBlock = some k) ∧ Chg (fun k => k = T ∨ k = hb ∨ k = g ∨ exv.ownBlock = some k) w w' := by
  obtain ⟨i0, hi, hz0, hz1, hz2⟩ := info_parts info86
  have hlt := hT.lt
  obtain ⟨c9, c10, c53, c61, c69, cF⟩ := hT.cells
  have hn := fun w => run_eql_map_nil w 57 9 70 (some M) Yba.underlying57
  have hV : v.val = .agg #[.int .u64 v.ts, .int .u64 v.sq, .string v.sc, .string v.tb, .pointer none, .bool v.dr, .bool false, .bool false, .int .u64 0, .slice none 0 0] := rfl
  have hM1 := (hM.same (w' := w.alloc (.cells v.cells.toArray 82)) (Below.heap_alloc _ _ _ hM.lt)).look_in (t := 57) (e := 70) (z := .pointer none) Yba.underlying57 rfl rfl hs hj hv |>.2
  have cP := push_any hb g h v (w.alloc (.cells v.cells.toArray 82)) h8 (hH.same (Below.heap_alloc _ _ _ hH.lt.1) (Below.heap_alloc _ _ _ hH.lt.2))
  rw [hV] at cP ⊢
  unfold Ver.cells at hM1 cP
  go_enter Yba.func19, Yba.ntmps19
  go_wp2_with (go_at_call 25; refine cP.mono ?_; rintro e w2 ⟨rfl, g', cap', r1, r2, r3⟩)
  have hM2 := HMid.first (v := v) hT hX hH r1 r3
  clear r1 r3 cP hM1 c9 c10 c53 c61 c69 cF hV
  have r2' : w.heap.size ≤ g' ∨ g' = g := or_map r2 (fun h => by simp at h; omega) id
  clear r2
  obtain ⟨c9, c10, c53, c61, c69, cF⟩ := hM2.tab.cells
  obtain ⟨b0, b1, b2, b3, b4, b5, b6, b7, b8, b9⟩ := box_at hM2.box
  have hl2 := hM2.tab.lt
  have hl2' : w.heap.size < w2.heap.size := (Array.getElem?_eq_some_iff.1 hM2.box).1
  have HM2 : Hid (HMid _ _ _ _ _ _ _ _ _ _ _ _ _ _ _ _) := hM2
  clear hM2
  go_wp2
  go_region
  all_goals go_wp2
  case' inl => have hd : Hid (v.sq = max ds v.sq) := (by omega : v.sq = max ds v.sq)
  case' inr => have hd : Hid (ds = max ds v.sq) := (by omega : ds = max ds v.sq)
  case' inl => have hM3 := HMid.second (x := v.sq) HM2.out hlt (Obj.cells #[Value.string s, Value.string ⟨#[]⟩, Value.int IntKind.u64 v.sq] 84)
  case' inr => have hM3 := HMid.second (x := ds) HM2.out hlt (Obj.cells #[Value.string s, Value.string ⟨#[]⟩, Value.int IntKind.u64 v.sq] 84)
  case' inl => obtain ⟨k0, k1, k2, hl3'⟩ := key_at (w2.setCell ⟨T, 69, none⟩ (.int .u64 v.sq)) s v.sq _ rfl
  case' inr => obtain ⟨k0, k1, k2, hl3'⟩ := key_at (w2.setCell ⟨T, 69, none⟩ (.int .u64 ds)) s v.sq _ rfl
  case' inl => generalize ((w2.setCell ⟨T, 69, none⟩ (.int .u64 v.sq)).alloc (Obj.cells #[Value.string s, Value.string ⟨#[]⟩, Value.int IntKind.u64 v.sq] 84)).drew = w3 at hM3 k0 k1 k2 hl3' ⊢
  case' inr => generalize ((w2.setCell ⟨T, 69, none⟩ (.int .u64 ds)).alloc (Obj.cells #[Value.string s, Value.string ⟨#[]⟩, Value.int IntKind.u64 v.sq] 84)).drew = w3 at hM3 k0 k1 k2 hl3' ⊢
  all_goals
    rw [size_set] at k0 k1 k2 hl3'
    clear HM2 c9 c10 c53 c61 c69 cF b0 b1 b2 b3 b4 b5 b6 b7 b8 b9
    obtain ⟨c9, c10, c53, c61, c69, cF⟩ := hM3.tab.cells
    have hl3 := hM3.tab.lt
    have HM3 : Hid (HMid _ _ _ _ _ _ _ _ _ _ _ _ _ _ _ _) := hM3
    clear hM3
    go_region_law (refine step_append_lies _ rfl (.tmp 54) (.tmp 57) 62 rfl 0 86 i0 _ 4 48 Yba.underlying62 hi hz0 hz1 hz2 rfl (by decide) exv ex.length (xcells ex) (by rfl) (World.ownsRow.drew (HM3.out.row.alloc _)) ⟨w3.heap.size, 0, none⟩ 1 1 (Exc.mk s ⟨#[]⟩ v.sq true).cells (by rfl) rfl (new_at_eq w3 (Exc.mk s ⟨#[]⟩ v.sq true).cells 86 _ rfl) (Exc.oneCell _) (by omega) (by unfold maxLen; omega) (by omega) (Nat.zero_le _) (w3.heap.size + 1) (by show (w3.alloc _).heap.size = _; simp) ?_; intro ge cp w4 hown1 hgrow hat hgl; have hM4 := HMid.last HM3.out hlt hown1 hgrow; clear hown1 hgrow; have hl4 := hM4.tab.lt; have hg4 : w.heap.size ≤ ge ∨ exv.ownBlock = some ge := hat.elim .inr (fun h => .inl (by have := HM3.out.chg.size; omega)); clear hat; have cF4 := hM4.tab.cells.2.2.2.2.2; have c64 := hM4.tab.cells.2.2.2.1; have HM4 : Hid (HMid _ _ _ _ _ _ _ _ _ _ _ _ _ _ _ _) := hM4; clear hM4)
    all_goals go_wp2
    all_goals (go_end0; rw [← hd.out]; exact ⟨rfl, hold_end HM4.out hlt r2' hg4⟩)
end Go.Proofs.Ybulkexohm
