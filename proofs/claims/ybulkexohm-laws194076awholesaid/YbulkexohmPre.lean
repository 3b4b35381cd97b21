/-
  Ahead of the third loop, and behind it.
-/
import Derived.Test.YbulkexohmBuild
namespace Go.Proofs.Ybulkexohm
open Go.RowKit Go.Maps
set_option linter.unusedVariables false
theorem Tab.set53 {w : World} {T : Nat} {ts sq ds : Int} {dm ex : Value} (h : Tab w T ts sq ds dm ex) (x : Value) : Tab (w.setCell ⟨T, 53, none⟩ x) T ts sq ds x ex := by
  obtain ⟨C, h0, h1, h2, h3, h4, h5, h6⟩ := h
  refine ⟨_, heap_setCell_at (i := 53) h0 x, by simp [h1], (Array.getElem?_setIfInBounds_ne (by decide)).trans h2, (Array.getElem?_setIfInBounds_ne (by decide)).trans h3, Array.getElem?_setIfInBounds_self_of_lt (by omega), (Array.getElem?_setIfInBounds_ne (by decide)).trans h5, (Array.getElem?_setIfInBounds_ne (by decide)).trans h6⟩
/-- Behind the loop: all keys lie in the Tables and in the copies. -/
structure L4 (w : World) (DL : List DIn) (I : Nat) (kv lv : Value) (m : Nat) (KS : List ByteArray) (LS : List Nat) (T : Nat) (dm : Value) (MV MT MN : Nat) (ts sq ds : Int) (exv : Value) (ex : List Exc) (S : Nat → Prop) (VS : List Value) (hb g cap : Nat → Nat) (mvs mts mns : List Value) (wr : World) : Prop where
  l2 : L2 w DL I kv lv m KS LS wr
  real : ∀ B, Real B S T ts sq KS dm VS hb g cap exv ⟨hists DL LS, ds, ex⟩ wr
  model : Model S KS.length KS.length MV MT MN mvs mts mns (hists DL LS) wr
  lo : ∀ k, S k → w.heap.size ≤ k
  hi : ∀ k, S k → k < wr.heap.size
  sI : ¬ S I
  sK : ∀ k, kv.ownBlock = some k → ¬ S k
  sL : ∀ k, lv.ownBlock = some k → ¬ S k
  sM : ¬ S MV ∧ ¬ S MT ∧ ¬ S MN
  mN : w.heap.size ≤ MV ∧ w.heap.size ≤ MT ∧ w.heap.size ≤ MN
  nil : KS = [] → dm = .map none
/-- Ahead of the loop. -/
structure Pre (w : World) (DL : List DIn) (I : Nat) (kv lv : Value) (m : Nat) (KS : List ByteArray) (LS : List Nat) (T MV MT MN : Nat) (ts sq ds : Int) (exv : Value) (ex : List Exc) (mvs mts mns : List Value) (wr : World) : Prop where
  l2 : L2 w DL I kv lv m KS LS wr
  tab : Tab wr T ts sq ds (.map none) exv
  tabN : w.heap.size ≤ T
  row : XRow wr exv ex
  rowN : ∀ k, exv.ownBlock = some k → w.heap.size ≤ k
  mv : wr.ownsRow 0 71 1 (.slice (some ⟨MV, 0, none⟩) KS.length KS.length) KS.length mvs
  mt : wr.ownsRow 0 4 1 (.slice (some ⟨MT, 0, none⟩) KS.length KS.length) KS.length mts
  mn : wr.ownsRow 0 24 1 (.slice (some ⟨MN, 0, none⟩) KS.length KS.length) KS.length mns
  mN : w.heap.size ≤ MV ∧ w.heap.size ≤ MT ∧ w.heap.size ≤ MN
section
variable {w : World} {DL : List DIn} {I : Nat} {kv lv : Value} {m : Nat} {KS : List ByteArray} {LS : List Nat} {T M MV MT MN : Nat} {ts sq ds : Int} {dm exv : Value} {ex : List Exc} {S : Nat → Prop} {VS : List Value} {hb g cap : Nat → Nat} {mvs mts mns : List Value} {nr nm n : Nat} {wr w' : World}
theorem L3.all (h : L3 w DL I kv lv m KS LS T M MV MT MN ts sq ds exv ex S VS hb g cap mvs mts mns KS.length KS.length wr) (hne : KS ≠ []) : L4 w DL I kv lv m KS LS T (.map (some M)) MV MT MN ts sq ds exv ex S VS hb g cap mvs mts mns wr := by
  have hlen2 : (hists DL LS).length = KS.length := by rw [← h.l2.len]; simp [hists]
  refine ⟨h.l2, fun B => ?_, h.model, h.lo, h.hi, h.sI, h.sK, h.sL, h.sM, h.mN.2, fun e => absurd e hne⟩
  have := h.real B
  rw [List.take_length, ← hlen2, List.take_length] at this
  exact this
/-- The blocks of the Tables, as yet without histories. -/
theorem Pre.seps (h : Pre w DL I kv lv m KS LS T MV MT MN ts sq ds exv ex mvs mts mns wr) {S : Nat → Prop} (hS : ∀ k, S k ↔ k = T ∨ exv.ownBlock = some k) :
    (∀ k, S k → w.heap.size ≤ k) ∧ (∀ k, S k → k < wr.heap.size) ∧ ¬ S I ∧ (∀ k, kv.ownBlock = some k → ¬ S k) ∧ (∀ k, lv.ownBlock = some k → ¬ S k) ∧ ¬ S MV ∧ ¬ S MT ∧ ¬ S MN := by
  obtain ⟨CT, hCT, _⟩ := id h.tab
  obtain ⟨es, c, hI⟩ := h.l2.map.isMap
  have out : ∀ {e size q : Nat} {u : Value} {xs : List Value}, wr.ownsRow 0 e size u q xs → e ≠ 65 → e ≠ 86 → ∀ k, u.ownBlock = some k → ¬ S k := fun hr h1 h2 k hk hs => by
    rcases (hS k).1 hs with rfl | e
    · exact XRow.type hr hCT (fun q => h1 q.symm) hk
    · exact row_ne hr h.row h2 hk e
  refine ⟨fun k hk => ((hS k).1 hk).elim (fun e => e ▸ h.tabN) (h.rowN k), fun k hk => ((hS k).1 hk).elim (fun e => e ▸ h.tab.lt) (fun e => (h.row.lt k e).2), fun hs => ?_, out h.l2.keys (by decide) (by decide), out h.l2.last (by decide) (by decide), out h.mv (by decide) (by decide) MV rfl, out h.mt (by decide) (by decide) MT rfl, out h.mn (by decide) (by decide) MN rfl⟩
  rcases (hS I).1 hs with e | e
  · rw [e, hCT] at hI; cases hI
  · exact map_ne h.l2.map h.row e
theorem Pre.empty (h : Pre w DL I kv lv m KS LS T MV MT MN ts sq ds exv ex mvs mts mns wr) (hK : KS = []) : L4 w DL I kv lv m KS LS T (.map none) MV MT MN ts sq ds exv ex (fun k => k = T ∨ exv.ownBlock = some k) [] (fun _ => 0) (fun _ => 0) (fun _ => 0) mvs mts mns wr := by
  obtain ⟨s1, s2, s3, s4, s5, s6⟩ := h.seps (S := fun k => k = T ∨ exv.ownBlock = some k) (fun k => Iff.rfl)
  have hl : LS = [] := List.eq_nil_of_length_eq_zero (by rw [h.l2.len, hK]; rfl)
  have hh : hists DL LS = [] := by rw [hl]; rfl
  refine ⟨h.l2, fun B => ⟨h.tab, .inl rfl, h.row, fun k hk => .inr (.inr hk), .inl ⟨rfl, hK, rfl⟩, by rw [hh, hK]; rfl, fun j hj => ?_, fun j x hj => ?_, fun i j x y hi => ?_⟩, ⟨h.mv, h.mt, h.mn, fun j x hj hx => ?_⟩, s1, s2, s3, s4, s5, s6, h.mN, fun _ => rfl⟩
  · rw [hh] at hj; simp at hj
  · rw [hh] at hj; simp at hj
  · rw [hh] at hi; simp at hi
  · rw [hh] at hx; simp at hx
theorem Pre.start (h : Pre w DL I kv lv m KS LS T MV MT MN ts sq ds exv ex mvs mts mns wr) :
    L3 w DL I kv lv m KS LS T wr.heap.size MV MT MN ts sq ds exv ex (fun k => k = T ∨ exv.ownBlock = some k) [] (fun _ => 0) (fun _ => 0) (fun _ => 0) mvs mts mns 0 0 ((wr.setCell ⟨T, 53, none⟩ (.map (some wr.heap.size))).alloc (.map #[] 0)) := by
  obtain ⟨s1, s2, s3, s4, s5, s6⟩ := h.seps (S := fun k => k = T ∨ exv.ownBlock = some k) (fun k => Iff.rfl)
  obtain ⟨CT, hCT, _⟩ := id h.tab
  have hc1 : Chg (fun k => k = T) wr (wr.setCell ⟨T, 53, none⟩ (.map (some wr.heap.size))) := (Chg.refl (fun k => k = T) wr).setCell ⟨T, 53, none⟩ _ (fun _ => rfl)
  have hc : Chg (fun k => k = T) wr ((wr.setCell ⟨T, 53, none⟩ (.map (some wr.heap.size))).alloc (.map #[] 0)) := hc1.trans (Chg.alloc _ _ _)
  have hsz : (wr.setCell ⟨T, 53, none⟩ (.map (some wr.heap.size))).heap.size = wr.heap.size := size_set _ _ _
  have ht : Tab ((wr.setCell ⟨T, 53, none⟩ (.map (some wr.heap.size))).alloc (.map #[] 0)) T ts sq ds (.map (some wr.heap.size)) exv := (h.tab.set53 _).same (Below.heap_alloc _ _ _ (by rw [hsz]; exact h.tab.lt))
  have hm := MapIs.made (wr.setCell ⟨T, 53, none⟩ (.map (some wr.heap.size)))
  rw [hsz] at hm
  generalize (wr.setCell ⟨T, 53, none⟩ (.map (some wr.heap.size))).alloc (.map #[] 0) = W at hc ht hm ⊢
  have out : ∀ {e size q : Nat} {u : Value} {xs : List Value}, wr.ownsRow 0 e size u q xs → e ≠ 65 → ∀ k, u.ownBlock = some k → k ≠ T := fun hr h1 k hk e => XRow.type hr hCT (fun q => h1 q.symm) (e ▸ hk)
  refine ⟨h.l2.keep hc (fun k u => u ▸ h.tabN) (fun e => s3 (.inl e)) (out h.l2.keys (by decide)) (out h.l2.last (by decide)), fun B => ⟨ht, .inl rfl, hc.row h.row (out h.row (by decide)), fun k hk => .inr (.inr hk), .inr ⟨_, rfl, hm, trivial⟩, by simp, fun j hj => ?_, fun j x hj => ?_, fun i j x y hi => ?_⟩,
    ⟨hc.row h.mv (out h.mv (by decide)), hc.row h.mt (out h.mt (by decide)), hc.row h.mn (out h.mn (by decide)), fun j x hj hx => by omega⟩, s1, fun k hk => Nat.lt_of_lt_of_le (s2 k hk) hc.size, s3, s4, s5, s6, ⟨h.l2.below.size, h.mN⟩, fun e => ?_, rfl⟩
  · simp at hj
  · simp at hj
  · simp at hi
  · have := h.l2.map.lt; omega
theorem Pre.made {w1 w2 w3 : World} (hl2 : L2 w DL I kv lv m KS LS wr) (ht : Tab wr T ts sq ds (.map none) exv) (hT : w.heap.size ≤ T) (hx : XRow wr exv ex) (hxN : ∀ k, exv.ownBlock = some k → w.heap.size ≤ k)
    (o1 : w1.ownsRow 0 71 1 (.slice (some ⟨wr.heap.size, 0, none⟩) KS.length KS.length) KS.length mvs) (g1 : wr.grownBy w1 none) (o2 : w2.ownsRow 0 4 1 (.slice (some ⟨w1.heap.size, 0, none⟩) KS.length KS.length) KS.length mts) (g2 : w1.grownBy w2 none)
    (o3 : w3.ownsRow 0 24 1 (.slice (some ⟨w2.heap.size, 0, none⟩) KS.length KS.length) KS.length mns) (g3 : w2.grownBy w3 none) : Pre w DL I kv lv m KS LS T wr.heap.size w1.heap.size w2.heap.size ts sq ds exv ex mvs mts mns w3 := by
  have c1 : Chg (fun _ => False) wr w1 := (grown_chg g1).mono (fun _ _ e => by cases e)
  have c2 : Chg (fun _ => False) w1 w2 := (grown_chg g2).mono (fun _ _ e => by cases e)
  have c3 : Chg (fun _ => False) w2 w3 := (grown_chg g3).mono (fun _ _ e => by cases e)
  have c := (c1.trans c2).trans c3
  have b0 := hl2.below.size
  have b1 := c1.size
  have b2 := c2.size
  exact ⟨hl2.keep c (fun _ u => u.elim) (fun u => u) (fun _ _ u => u) (fun _ _ u => u), ht.same (c.block T ht.lt (fun u => u)), hT, c.row hx (fun _ _ u => u), hxN, (c2.trans c3).row o1 (fun _ _ u => u), c3.row o2 (fun _ _ u => u), o3, b0, by omega, by omega⟩
end
theorem info71 : (Yba.prog.info? 71).map (fun i => (i.zero, i.size, i.bytes)) = some (some (.slice none 0 0), 1, 24) := by kernel_rfl
theorem info4 : (Yba.prog.info? 4).map (fun i => (i.zero, i.size, i.bytes)) = some (some (.bool false), 1, 1) := by kernel_rfl
theorem info24 : (Yba.prog.info? 24).map (fun i => (i.zero, i.size, i.bytes)) = some (some (.int .u64 0), 1, 8) := by kernel_rfl
theorem Tab.set9 {w : World} {T : Nat} {ts sq ds : Int} {dm ex : Value} (h : Tab w T ts sq ds dm ex) (x : Int) : Tab (w.setCell ⟨T, 9, none⟩ (.int .u64 x)) T ts x ds dm ex := by
  obtain ⟨C, h0, h1, h2, h3, h4, h5, h6⟩ := h
  refine ⟨_, heap_setCell_at (i := 9) h0 _, by simp [h1], Array.getElem?_setIfInBounds_self_of_lt (by omega), (Array.getElem?_setIfInBounds_ne (by decide)).trans h3, (Array.getElem?_setIfInBounds_ne (by decide)).trans h4, (Array.getElem?_setIfInBounds_ne (by decide)).trans h5, (Array.getElem?_setIfInBounds_ne (by decide)).trans h6⟩
theorem Tab.set10 {w : World} {T : Nat} {ts sq ds : Int} {dm ex : Value} (h : Tab w T ts sq ds dm ex) (x : Int) : Tab (w.setCell ⟨T, 10, none⟩ (.int .u64 x)) T x sq ds dm ex := by
  obtain ⟨C, h0, h1, h2, h3, h4, h5, h6⟩ := h
  refine ⟨_, heap_setCell_at (i := 10) h0 _, by simp [h1], (Array.getElem?_setIfInBounds_ne (by decide)).trans h2, Array.getElem?_setIfInBounds_self_of_lt (by omega), (Array.getElem?_setIfInBounds_ne (by decide)).trans h4, (Array.getElem?_setIfInBounds_ne (by decide)).trans h5, (Array.getElem?_setIfInBounds_ne (by decide)).trans h6⟩
theorem tab_new (w : World) (Z : Array Value) (hZs : Z.size = 71) (hZ9 : Z[9]? = some (.int .u64 0)) (hZ10 : Z[10]? = some (.int .u64 0)) (hZ53 : Z[53]? = some (.map none)) (hZ61 : Z[61]? = some (.slice none 0 0)) (hZ69 : Z[69]? = some (.int .u64 0)) :
    Tab (w.alloc (.cells Z 65)) w.heap.size 0 0 0 (.map none) (.slice none 0 0) := ⟨Z, heap_alloc_new w _, hZs, hZ9, hZ10, hZ53, hZ61, hZ69⟩
/-- What stands behind the three stores and the call of excl, and behind the fourth store. -/
structure P1 (w : World) (DL : List DIn) (I : Nat) (kv lv : Value) (m : Nat) (KS : List ByteArray) (LS : List Nat) (T : Nat) (ts sq ds : Int) (exv : Value) (wr : World) : Prop where
  l2 : L2 w DL I kv lv m KS LS wr
  tab : Tab wr T ts sq ds (.map none) exv
  tabN : w.heap.size ≤ T
section
variable {w : World} {DL : List DIn} {I : Nat} {kv lv : Value} {m : Nat} {KS : List ByteArray} {LS : List Nat} {T : Nat} {ts sq ds ts' sq' ds' : Int} {exv exv' : Value} {wr w' : World}
theorem P1.turn (h : P1 w DL I kv lv m KS LS T ts sq ds exv wr) (hc : Chg (fun k => k = T) wr w') (ht : Tab w' T ts' sq' ds' (.map none) exv') : P1 w DL I kv lv m KS LS T ts' sq' ds' exv' w' := by
  obtain ⟨CT, hCT, _⟩ := id h.tab
  refine ⟨h.l2.keep hc (fun k u => u ▸ h.tabN) (fun e => ?_) (fun k hk e => XRow.type h.l2.keys hCT (by decide) (e ▸ hk)) (fun k hk e => XRow.type h.l2.last hCT (by decide) (e ▸ hk)), ht, h.tabN⟩
  obtain ⟨es, c, hI⟩ := h.l2.map.isMap
  rw [e, hCT] at hI; cases hI
theorem P1.first (h : L2 w DL I kv lv m KS LS wr) (Z : Array Value) (hZs : Z.size = 71) (hZ9 : Z[9]? = some (.int .u64 0)) (hZ10 : Z[10]? = some (.int .u64 0)) (hZ53 : Z[53]? = some (.map none)) (hZ61 : Z[61]? = some (.slice none 0 0)) (hZ69 : Z[69]? = some (.int .u64 0)) :
    P1 w DL I kv lv m KS LS wr.heap.size 0 0 0 (.slice none 0 0) (wr.alloc (.cells Z 65)) :=
  ⟨h.keep (Chg.alloc (fun _ => False) wr _) (fun _ u => u.elim) (fun u => u) (fun _ _ u => u) (fun _ _ u => u), tab_new wr Z hZs hZ9 hZ10 hZ53 hZ61 hZ69, h.below.size⟩
theorem P1.stores (h : P1 w DL I kv lv m KS LS T 0 0 0 exv wr) (ts sq ds : Int) : P1 w DL I kv lv m KS LS T ts sq ds exv (((wr.setCell ⟨T, 10, none⟩ (.int .u64 ts)).setCell ⟨T, 9, none⟩ (.int .u64 sq)).setCell ⟨T, 69, none⟩ (.int .u64 ds)) :=
  h.turn ((((Chg.refl (fun k => k = T) wr).setCell ⟨T, 10, none⟩ _ (fun _ => rfl)).setCell ⟨T, 9, none⟩ _ (fun _ => rfl)).setCell ⟨T, 69, none⟩ _ (fun _ => rfl)) (((h.tab.set10 ts).set9 sq).set69 ds)
theorem P1.call (h : P1 w DL I kv lv m KS LS T ts sq ds exv wr) (hb : Below wr.heap.size wr w') : P1 w DL I kv lv m KS LS T ts sq ds exv w' :=
  h.turn (Chg.ofBelow hb _) (h.tab.same (hb.block T h.tab.lt))
theorem P1.excl (h : P1 w DL I kv lv m KS LS T ts sq ds exv wr) (sv : Value) : P1 w DL I kv lv m KS LS T ts sq ds sv (wr.setCell ⟨T, 61, none⟩ sv) :=
  h.turn ((Chg.refl (fun k => k = T) wr).setCell ⟨T, 61, none⟩ _ (fun _ => rfl)) (h.tab.set61 sv)
end
end Go.Proofs.Ybulkexohm
