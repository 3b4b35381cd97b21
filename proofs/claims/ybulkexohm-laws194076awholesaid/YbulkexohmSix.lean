/-
  Behind the fourth loop; behind undoDrops; what a run leaves alone.
-/
import Derived.Test.YbulkexohmFive
import Derived.Test.YbulkexohmUndo
namespace Go.Proofs.Ybulkexohm
open Go.RowKit Go.Maps
set_option linter.unusedVariables false
section
variable {w : World} {DL : List DIn} {I : Nat} {kv lv : Value} {m : Nat} {KS : List ByteArray} {LS : List Nat} {T M MV MT MN : Nat} {ts sq ds : Int} {dm exv : Value} {ex : List Exc} {S : Nat → Prop} {VS : List Value} {hb g cap : Nat → Nat} {mvs mts mns : List Value} {wr w' wA w1 w2 : World} {SB : Nat} {SS : List ByteArray} {cv ev : Value} {st : St}
theorem L5.start {ex2 : List Exc} (h : L4 w DL I kv lv m KS LS T dm MV MT MN ts sq ds exv ex S VS hb g cap mvs mts mns wr) (hs : SRow wr (.slice (some ⟨SB, 0, none⟩) SS.length SS.length) SS) (hSB : ¬ S SB) (b1 : Below wr.heap.size wr w1) (rc : SRow w1 cv SS) (nc : ∀ k, cv.ownBlock = some k → wr.heap.size ≤ k)
    (b2 : Below w1.heap.size w1 w2) (re : XRow w2 ev ex2) (ne : ∀ k, ev.ownBlock = some k → w1.heap.size ≤ k) : L5 w DL I kv lv m KS LS T dm MV MT MN ts sq ds exv ex S VS hb g cap SB SS cv ev mvs mts mns ⟨hists DL LS, ds, ex2⟩ w2 := by
  have c1 : Chg (fun _ => False) wr w1 := Chg.ofBelow b1 _
  have c2 : Chg (fun _ => False) w1 w2 := Chg.ofBelow b2 _
  have h2 := (h.same c1).same c2
  have z0 := h.l2.below.size
  have z1 := b1.size
  exact ⟨h2.l2, h2.real, h2.model, (c1.trans c2).row hs (fun _ _ u => u), c2.row rc (fun _ _ u => u), re, hSB, fun k hk q => by have := h.hi k q; have := nc k hk; omega, fun k hk q => by have := h.hi k q; have := ne k hk; omega, fun k hk => by have := ne k hk; omega, h2.lo, h2.hi, h2.sI, h2.sK, h2.sL, h2.sM, h2.mN, h2.nil⟩
/-- Behind undoDrops. -/
structure L6 (w : World) (DL : List DIn) (I : Nat) (kv lv : Value) (m : Nat) (KS : List ByteArray) (LS : List Nat) (T : Nat) (dm : Value) (MV MT MN : Nat) (ts sq : Int) (exv : Value) (VS : List Value) (SB : Nat) (SS : List ByteArray) (cv ev : Value) (mvs mts mns : List Value) (st : St) (wr : World) : Prop where
  l2 : L2 w DL I kv lv m KS LS wr
  real : ∃ B S hb g cap, Real B S T ts sq KS dm VS hb g cap exv st wr
  model : ∃ S, Model S KS.length KS.length MV MT MN mvs mts mns st.hs wr
  sch : SRow wr (.slice (some ⟨SB, 0, none⟩) SS.length SS.length) SS
  cpy : SRow wr cv SS
  exp : XRow wr ev st.ex
  nil : KS = [] → dm = .map none
theorem L6.same {exv' : Value} (h : L6 w DL I kv lv m KS LS T dm MV MT MN ts sq exv' VS SB SS cv ev mvs mts mns st wr) (hc : Chg (fun _ => False) wr w') : L6 w DL I kv lv m KS LS T dm MV MT MN ts sq exv' VS SB SS cv ev mvs mts mns st w' := by
  obtain ⟨B, S, hb, g, cap, hR⟩ := h.real
  obtain ⟨S', hM⟩ := h.model
  refine ⟨h.l2.keep hc (fun _ u => u.elim) (fun u => u) (fun _ _ u => u) (fun _ _ u => u), ⟨B, S, hb, g, cap, hR.same hc⟩, ⟨fun _ => False, ?_⟩, hc.row h.sch (fun _ _ u => u), hc.row h.cpy (fun _ _ u => u), hc.row h.exp (fun _ _ u => u), h.nil⟩
  have hM' : Model (fun _ => False) KS.length KS.length MV MT MN mvs mts mns st.hs wr := hM.more (fun _ u => u.elim)
  exact hM'.keep hc ⟨fun u => u, fun u => u, fun u => u⟩ (fun _ u => u.elim)
theorem L5.undone {exv' : Value} {B : Nat} {g' cap' : Nat → Nat} (h : L5 w DL I kv lv m KS LS T dm MV MT MN ts sq ds exv ex S VS hb g cap SB SS cv ev mvs mts mns st wr) (hR : Real B S T ts sq KS dm VS hb g' cap' exv' st w') (hc : Chg S wr w') : L6 w DL I kv lv m KS LS T dm MV MT MN ts sq exv' VS SB SS cv ev mvs mts mns st w' :=
  ⟨h.l2.keep hc h.lo h.sI h.sK h.sL, ⟨B, S, hb, g', cap', hR⟩, ⟨S, h.model.keep hc h.sM (fun k u => .inl u)⟩, hc.row h.sch (fun k hk => by simp [Value.ownBlock] at hk; exact hk ▸ h.schS), hc.row h.cpy h.cpyS, hc.row h.exp h.expS, h.nil⟩
end
/-- What a step leaves of a history. -/
def Like (a b : Option Hist) : Prop := match a, b with
  | none, none => True
  | some x, some y => y.wb = x.wb ∧ y.hs = x.hs ∧ y.dt = x.dt
  | _, _ => False
theorem Like.refl (a : Option Hist) : Like a a := by cases a <;> simp [Like]
theorem Like.trans {a b c : Option Hist} (h : Like a b) (k : Like b c) : Like a c := by
  cases a <;> cases b <;> cases c <;> simp_all [Like]
theorem push_like (x : Hist) (v : Ver) : Like (some x) (some (x.push v)) := by
  unfold Hist.push
  split <;> simp [Like]
theorem step_like (ts sq : Int) (KS : List ByteArray) (st : St) (s : ByteArray) {j : Nat} {o : Option Hist} (h : st.hs[j]? = some o) : ∃ o', (st.step ts sq KS s).hs[j]? = some o' ∧ Like o o' := by
  unfold St.step
  split
  · exact ⟨o, h, Like.refl o⟩
  · rename_i i x v ha
    obtain ⟨a1, a2, a3, a4⟩ := at_some ha
    by_cases e : i = j
    · subst e
      rw [a2] at h
      cases h
      refine ⟨some (x.push ⟨ts, sq, v.sc, v.tb, false⟩), ?_, push_like _ _⟩
      show (st.hs.set i _)[i]? = _
      rw [List.getElem?_set_self (List.getElem?_eq_some_iff.1 a2).1]
    · refine ⟨o, ?_, Like.refl o⟩
      show (st.hs.set i _)[j]? = _
      rw [List.getElem?_set_ne e]; exact h
theorem run_like (ts sq : Int) (KS : List ByteArray) : ∀ (l : List ByteArray) (st : St) {j : Nat} {o : Option Hist}, st.hs[j]? = some o → ∃ o', (st.run ts sq KS l).hs[j]? = some o' ∧ Like o o'
  | [], st, j, o, h => ⟨o, h, Like.refl o⟩
  | s :: l, st, j, o, h => by
    obtain ⟨o1, h1, k1⟩ := step_like ts sq KS st s h
    obtain ⟨o2, h2, k2⟩ := run_like ts sq KS l (st.step ts sq KS s) h1
    exact ⟨o2, h2, k1.trans k2⟩
theorem run_none {ts sq : Int} {KS : List ByteArray} {st : St} {SS : List ByteArray} {n : Nat} {s : ByteArray} (hs : SS[n]? = some s) (ha : (st.run ts sq KS (SS.take n)).at KS s = none) : st.run ts sq KS (SS.take (n + 1)) = st.run ts sq KS (SS.take n) := by
  rw [take_snoc hs, run_snoc]
  unfold St.step
  rw [ha]
theorem run_some {ts sq : Int} {KS : List ByteArray} {st : St} {SS : List ByteArray} {n : Nat} {s : ByteArray} {j : Nat} {x : Hist} {v : Ver} (hs : SS[n]? = some s) (ha : (st.run ts sq KS (SS.take n)).at KS s = some (j, x, v)) :
    st.run ts sq KS (SS.take (n + 1)) = ⟨(st.run ts sq KS (SS.take n)).hs.set j (some (x.push ⟨ts, sq, v.sc, v.tb, false⟩)), max (st.run ts sq KS (SS.take n)).ds sq, (st.run ts sq KS (SS.take n)).ex ++ [⟨s, ⟨#[]⟩, sq, true⟩]⟩ := by
  rw [take_snoc hs, run_snoc]
  unfold St.step
  rw [ha]
theorem at_out {KS : List ByteArray} {st : St} {s : ByteArray} (h : find KS s = none) : st.at KS s = none := by simp [St.at, h]
theorem at_gone {KS : List ByteArray} {st : St} {s : ByteArray} {j : Nat} (h : find KS s = some j) (h2 : st.hs[j]? = some none) : st.at KS s = none := by simp [St.at, h, h2]
theorem at_here {KS : List ByteArray} {st : St} {s : ByteArray} {j : Nat} {x : Hist} {v : Ver} (h : find KS s = some j) (h2 : st.hs[j]? = some (some x)) (hd : x.dropped = some v) : st.at KS s = some (j, x, v) := by simp [St.at, h, h2, hd]
theorem at_not {KS : List ByteArray} {st : St} {s : ByteArray} {j : Nat} {x : Hist} (h : find KS s = some j) (h2 : st.hs[j]? = some (some x)) (hd : x.dropped = none) : st.at KS s = none := by simp [St.at, h, h2, hd]
end Go.Proofs.Ybulkexohm
