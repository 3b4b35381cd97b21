/-
  The walk of (*Tables).undoDrops (8).
-/
import Derived.Test.YbulkexohmState
import Derived.Deep.RegionWith
namespace Go.Proofs.Ybulkexohm
open Go.RowKit Go.Maps
set_option linter.unusedVariables false

/-- A row of strings. -/
abbrev SRow (w : World) (sv : Value) (l : List ByteArray) : Prop := w.ownsRow 0 9 1 sv l.length (l.map .string)
def St.run (ts sq : Int) (KS : List ByteArray) (st : St) (l : List ByteArray) : St := l.foldl (St.step ts sq KS) st
theorem run_snoc (ts sq : Int) (KS : List ByteArray) (st : St) (l : List ByteArray) (s : ByteArray) : st.run ts sq KS (l ++ [s]) = (st.run ts sq KS l).step ts sq KS s := by simp [St.run]
theorem step_ex (ts sq : Int) (KS : List ByteArray) (st : St) (s : ByteArray) : (st.step ts sq KS s).ex.length ≤ st.ex.length + 1 := by
  unfold St.step; split <;> simp
theorem undo_skip {S : Nat → Prop} {T : Nat} {ts sq : Int} {KS : List ByteArray} {dm : Value} {VS : List Value} {hb g' cap' : Nat → Nat} {exv' : Value} {st st1 : St} {w wr w2 : World} {SS : List ByteArray} {n : Nat} {s : ByteArray} {o : Obj} (hlt : n < SS.length)
    (hR : Real w.heap.size S T ts sq KS dm VS hb g' cap' exv' st1 wr) (hc : Chg (fun _ => False) wr w2) (hE : st1.ex.length ≤ 255 + n) (hC : Chg S w wr) (he : st.run ts sq KS (SS.take (n + 1)) = st1.step ts sq KS s) (ha : st1.at KS s = none) :
    (∃ (n_1 : Nat) (g' cap' : Nat → Nat) (exv' : Value), n_1 ≤ SS.length ∧ Value.int .i64 (n + 1) = .int .i64 n_1 ∧ Real w.heap.size S T ts sq KS dm VS hb g' cap' exv' (st.run ts sq KS (SS.take n_1)) (w2.alloc o) ∧ (st.run ts sq KS (SS.take n_1)).ex.length ≤ 255 + n_1 ∧ Chg S w (w2.alloc o)) ∧
      SS.length - (intOf (.int .i64 (n + 1))).toNat < SS.length - (intOf (.int .i64 n)).toNat := by
  have e : st.run ts sq KS (SS.take (n + 1)) = st1 := by rw [he]; unfold St.step; rw [ha]
  have hc2 := hc.trans (Chg.alloc _ w2 o)
  refine ⟨⟨n + 1, g', cap', exv', hlt, int_eq (by omega), ?_, ?_, hC.trans (hc2.mono (fun _ _ h => h.elim))⟩, by simp [intOf]; omega⟩
  · rw [e]; exact hR.same hc2
  · rw [e]; omega
theorem undo_turn {S : Nat → Prop} {T : Nat} {ts sq : Int} {KS : List ByteArray} {dm : Value} {VS : List Value} {hb g cap : Nat → Nat} {exv : Value} {st st1 : St} {w w2 w4 : World} {SS : List ByteArray} {n : Nat} {s : ByteArray} {j : Nat} {x : Hist} {v : Ver} {exv4 : Value} {g4 cap4 : Nat} (hlt : n < SS.length)
    (hR : Real w.heap.size S T ts sq KS dm VS hb g cap exv st1 w2) (hB : w.heap.size ≤ w2.heap.size) (hE : st1.ex.length ≤ 255 + n) (hC : Chg S w w2) (he : st.run ts sq KS (SS.take (n + 1)) = st1.step ts sq KS s) (hE' : (st.run ts sq KS (SS.take (n + 1))).ex.length ≤ st1.ex.length + 1) (ha : st1.at KS s = some (j, x, v))
    (q1 : Tab w4 T ts sq (max st1.ds sq) dm exv4) (q2 : XRow w4 exv4 (st1.ex ++ [⟨s, ⟨#[]⟩, sq, true⟩])) (q3 : HistIs w4 (hb j) g4 cap4 (x.push ⟨ts, sq, v.sc, v.tb, false⟩)) (q4 : w2.heap.size ≤ g4 ∨ g4 = g j)
    (q5 : ∀ k, exv4.ownBlock = some k → w2.heap.size ≤ k ∨ exv.ownBlock = some k) (q6 : Chg (fun k => k = T ∨ k = hb j ∨ k = g j ∨ exv.ownBlock = some k) w2 w4) :
    (∃ (n_1 : Nat) (g' cap' : Nat → Nat) (exv' : Value), n_1 ≤ SS.length ∧ Value.int .i64 (n + 1) = .int .i64 n_1 ∧ Real w.heap.size S T ts sq KS dm VS hb g' cap' exv' (st.run ts sq KS (SS.take n_1)) w4 ∧ (st.run ts sq KS (SS.take n_1)).ex.length ≤ 255 + n_1 ∧ Chg S w w4) ∧
      SS.length - (intOf (.int .i64 (n + 1))).toNat < SS.length - (intOf (.int .i64 n)).toNat := by
  obtain ⟨r1, r2⟩ := hR.hold hB ha q1 q2 q3 q4 q5 q6
  refine ⟨⟨n + 1, _, _, exv4, hlt, int_eq (by omega), by rw [he]; exact r1, by omega, hC.andThen r2 (fun i hi h => h.elim (fun h => by omega) id)⟩, by simp [intOf]; omega⟩
theorem undo_hold {B : Nat} {S : Nat → Prop} {T M : Nat} {ts sq : Int} {KS : List ByteArray} {VS : List Value} {hb g cap : Nat → Nat} {exv : Value} {st : St} {w2 : World} {s : ByteArray} {j : Nat} {x : Hist} {u : Ver}
    (h : Real B S T ts sq KS (.map (some M)) VS hb g cap exv st w2) (hs : s.size ≤ maxLen) (ha : st.at KS s = some (j, x, u)) (hex : st.ex.length ≤ 3000000) :
    Calls Yba.prog 19 #[.pointer (some ⟨T, 0, none⟩), .string s, (Ver.mk ts sq u.sc u.tb false).val] w2 fun e w' => e = .returned (.tuple #[]) ∧ ∃ exv' g' cap', Tab w' T ts sq (max st.ds sq) (.map (some M)) exv' ∧ XRow w' exv' (st.ex ++ [⟨s, ⟨#[]⟩, sq, true⟩]) ∧ HistIs w' (hb j) g' cap' (x.push ⟨ts, sq, u.sc, u.tb, false⟩) ∧ (w2.heap.size ≤ g' ∨ g' = g j) ∧ (∀ k, exv'.ownBlock = some k → w2.heap.size ≤ k ∨ exv.ownBlock = some k) ∧ Chg (fun k => k = T ∨ k = hb j ∨ k = g j ∨ exv.ownBlock = some k) w2 w' := by
  obtain ⟨a1, a2, a3, a4⟩ := at_some ha
  obtain ⟨p1, p2, p3, p4, p5, p6⟩ := h.held j x a2
  have hd : x.dropped ≠ none := by unfold Hist.dropped; rw [a3]; simp [a4]
  rw [p4 hd] at p2
  rcases h.drops with ⟨e, _⟩ | ⟨M', e, hM, _⟩
  · cases e
  · cases e
    exact hold_any T M j (hb j) (g j) ts sq st.ds exv st.ex KS VS s x ⟨ts, sq, u.sc, u.tb, false⟩ w2 h.tab h.row hM hs a1 p1 p3 p2 hex
set_option maxRecDepth 100000 in
set_option maxHeartbeats 4000000 in
theorem undo_any {S : Nat → Prop} {T : Nat} {ts sq : Int} {KS : List ByteArray} {dm : Value} {VS : List Value} {hb g cap : Nat → Nat} {exv : Value} {st : St} {w : World} {sb sc : Nat} {SS : List ByteArray}
    (h : Real w.heap.size S T ts sq KS dm VS hb g cap exv st w) (hr : SRow w (.slice (some ⟨sb, 0, none⟩) SS.length sc) SS) (hS : ¬ S sb) (hsz : ∀ s ∈ SS, s.size ≤ maxLen) (hn : SS.length ≤ 1048576) (hex : st.ex.length ≤ 255) :
    Calls Yba.prog 8 #[.pointer (some ⟨T, 0, none⟩), .slice (some ⟨sb, 0, none⟩) SS.length sc] w fun e w' => e = .returned (.tuple #[]) ∧ ∃ g' cap' exv', Real w.heap.size S T ts sq KS dm VS hb g' cap' exv' (st.run ts sq KS SS) w' ∧ Chg S w w' := by
  go_enter Yba.func8, Yba.ntmps8
  go_wp2
  go_loopw [10] (fun i wr => ∃ (n : Nat) (g' cap' : Nat → Nat) (exv' : Value), n ≤ SS.length ∧ i = .int .i64 n ∧ Real w.heap.size S T ts sq KS dm VS hb g' cap' exv' (st.run ts sq KS (SS.take n)) wr ∧ (st.run ts sq KS (SS.take n)).ex.length ≤ 255 + n ∧ Chg S w wr) (fun i _ => SS.length - (intOf i).toNat)
  case atStart => exact ⟨0, g, cap, exv, Nat.zero_le _, rfl, h, hex, Chg.refl _ _⟩
  case round =>
    obtain ⟨n, g', cap', exv', hnl, rfl, hR, hE, hC⟩ := hrel
    by_cases hlt : n < SS.length
    · obtain ⟨s, hs⟩ : ∃ s, SS[n]? = some s := ⟨_, List.getElem?_eq_getElem hlt⟩
      have hss := hsz s (List.mem_of_getElem? hs)
      have hrow := hC.row hr (fun k hk => by simp [Value.ownBlock] at hk; exact hk ▸ hS)
      have hcell : wr.cell? ⟨sb, n, none⟩ = some (.string s) := by rw [hrow.cellAt n (by omega), List.getElem?_map, hs]; rfl
      have hsl : sb < wr.heap.size := (hrow.lt sb rfl).2
      obtain ⟨P, hL, cN⟩ := hR.newest hss
      have hTl := hR.tab.lt
      obtain ⟨c9, c10, c53, c61, c69, cF⟩ := hR.tab.cells
      have et : SS.take (n + 1) = SS.take n ++ [s] := by rw [List.take_add_one, hs]; rfl
      have est := run_snoc ts sq KS st (SS.take n) s
      rw [← et] at est
      generalize hst1 : st.run ts sq KS (SS.take n) = st1 at *
      have hE' := step_ex ts sq KS st1 s
      rw [← est] at hE'
      have HE : Hid ((st.run ts sq KS (SS.take (n + 1))).ex.length ≤ st1.ex.length + 1) := hE'
      clear hE'
      have HEST : Hid (st.run ts sq KS (SS.take (n + 1)) = st1.step ts sq KS s) := est
      clear est et hst1 hsz hr hrow
      cases hat : st1.at KS s with
      | none =>
        go_wp2_with (go_at_call 18; refine cN.mono ?_; rintro e w2 ⟨⟨vts, vsq, vsc, vtb, vdr⟩, b, rfl, q1, q2, q3⟩; unfold Ver.val)
        all_goals try (exfalso; have q4 := q1 hat; simp_all; done)
        all_goals exact undo_skip hlt hR (Chg.ofBelow q3 _) hE hC HEST.out hat
      | some r =>
        obtain ⟨j, x, u⟩ := r
        obtain ⟨a1, a2, a3, a4⟩ := at_some hat
        obtain ⟨M, rfl, hM, hne⟩ : ∃ M, dm = .map (some M) ∧ MapIs wr M KS VS ∧ True := by
          rcases hR.drops with ⟨_, e, _⟩ | h
          · rw [e] at a1; simp at a1
          · exact h
        go_wp2_with (go_at_call 18; refine cN.mono ?_; rintro e w2 ⟨v, b, rfl, q1, q2, q3⟩; obtain ⟨rfl, rfl⟩ := q2 _ _ _ hat; obtain ⟨vts, vsq, vsc, vtb, vdr⟩ := v; obtain rfl : vdr = true := a4; unfold Ver.val)
        clear cN hL c9 c10 c53 c61 c69 cF q1 q2 hM hcell
        have hbx : (w2.alloc (.cells (Ver.mk vts vsq vsc vtb true).cells.toArray 82)).heap[w2.heap.size]? = some (.cells (Ver.mk vts vsq vsc vtb true).cells.toArray 82 (0, 0)) := heap_alloc_new w2 _
        have hC3 : Chg (fun _ => False) wr (w2.alloc (.cells (Ver.mk vts vsq vsc vtb true).cells.toArray 82)) := (Chg.ofBelow q3 _).trans (Chg.alloc _ _ _)
        unfold Ver.cells at hbx hC3
        dsimp only at hbx hC3
        generalize hw3 : w2.alloc (.cells #[.int .u64 vts, .int .u64 vsq, .string vsc, .string vtb, .pointer none, .bool true, .bool false, .bool false, .int .u64 0, .slice none 0 0] 82) = w3 at hbx hC3 ⊢
        clear hw3
        obtain ⟨b0, b1, b2, b3, b4, b5, b6, b7, b8, b9⟩ := box_at (v := Ver.mk vts vsq vsc vtb true) hbx
        have hl2 : w2.heap.size < w3.heap.size := (Array.getElem?_eq_some_iff.1 hbx).1
        have hR3 := hR.same hC3.drew
        obtain ⟨c9, c10, c53, c61, c69, cF⟩ := (hR.same hC3).tab.cells
        have hT3 := (hR.same hC3).tab.lt
        have cH := undo_hold (w2 := w3.drew) (u := Ver.mk vts vsq vsc vtb true) hR3 hss hat (by omega : st1.ex.length ≤ 3000000)
        unfold Ver.val at cH
        go_region_with (go_at_call 19; refine cH.mono ?_; rintro e w4 ⟨rfl, exv4, g4, cap4, p1, p2, p3, p4, p5, p6⟩)
        all_goals go_wp2
        all_goals exact undo_turn hlt hR3 (Nat.le_trans hC.size hC3.size) hE (hC.trans ((hC3.mono (fun _ _ h => h.elim)).drew)) HEST.out HE.out hat p1 p2 p3 p4 p5 p6
    · have en : n = SS.length := by omega
      subst en
      go_wp2
      go_end0
      rw [List.take_length] at hR
      exact ⟨rfl, g', cap', exv', hR, hC⟩
end Go.Proofs.Ybulkexohm
