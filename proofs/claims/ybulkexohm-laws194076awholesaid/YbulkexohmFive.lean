/-
  The law's fourth and fifth loops: the names, and the law's own reckoning.
-/
import Derived.Test.YbulkexohmBox
namespace Go.Proofs.Ybulkexohm
open Go.RowKit Go.Maps
set_option linter.unusedVariables false
section
variable {w : World} {DL : List DIn} {I : Nat} {kv lv : Value} {m : Nat} {KS : List ByteArray} {LS : List Nat} {T M MV MT MN : Nat} {ts sq ds : Int} {dm exv : Value} {ex : List Exc} {S : Nat → Prop} {VS : List Value} {hb g cap : Nat → Nat} {mvs mts mns : List Value} {nr nm n : Nat} {wr w' wA w1 : World}
theorem L4.same (h : L4 w DL I kv lv m KS LS T dm MV MT MN ts sq ds exv ex S VS hb g cap mvs mts mns wr) (hc : Chg (fun _ => False) wr w') : L4 w DL I kv lv m KS LS T dm MV MT MN ts sq ds exv ex S VS hb g cap mvs mts mns w' :=
  ⟨h.l2.keep hc (fun _ u => u.elim) (fun u => u) (fun _ _ u => u) (fun _ _ u => u), fun B => (h.real B).same hc, h.model.keep hc h.sM (fun _ u => u.elim), h.lo, fun k hk => Nat.lt_of_lt_of_le (h.hi k hk) hc.size, h.sI, h.sK, h.sL, h.sM, h.mN, h.nil⟩
/-- A block of strings of our own turns. -/
theorem L4.names (h : L4 w DL I kv lv m KS LS T dm MV MT MN ts sq ds exv ex S VS hb g cap mvs mts mns wr) {SB : Nat} (hc : Chg (fun k => k = SB) wr w') (hN : w.heap.size ≤ SB) (hI : I ≠ SB) (hK : kv.ownBlock ≠ some SB) {C : Array Value} {fr : Nat × Nat} (hC : wr.heap[SB]? = some (.cells C 9 fr)) :
    L4 w DL I kv lv m KS LS T dm MV MT MN ts sq ds exv ex S VS hb g cap mvs mts mns w' := by
  have key : ∀ k C' t fr', k = SB → wr.heap[k]? = some (.cells C' t fr') → t = 9 := fun k C' t fr' e h1 => by rw [e] at h1; exact cells_inj h1 hC
  refine ⟨h.l2.keep hc (fun k u => u ▸ hN) hI (fun k hk e => hK (e ▸ hk)) (fun k hk e => XRow.type h.l2.last hC (by decide) (e ▸ hk)), fun B => (h.real B).keep hc (fun k C' t fr' u e => ?_) (fun M hM u => ?_), h.model.keep hc h.sM (fun k u => .inr (fun C' t fr' e => ?_)), h.lo, fun k hk => Nat.lt_of_lt_of_le (h.hi k hk) hc.size, h.sI, h.sK, h.sL, h.sM, h.mN, h.nil⟩
  · have := key k C' t fr' u e
    subst this
    exact ⟨by decide, by decide, fun q => absurd q (by decide)⟩
  · exact map_type (h.real 0).drops hM (u ▸ hC) rfl
  · have := key k C' t fr' u e
    subst this
    decide
theorem Real.le {B B' : Nat} {st : St} (h : Real B' S T ts sq KS dm VS hb g cap exv st wr) (hB : B ≤ B') : Real B S T ts sq KS dm VS hb g cap exv st wr :=
  ⟨h.tab, h.tabS, h.row, fun k hk => or_map (h.rowS k hk) (Nat.le_trans hB) id, h.drops, h.len, h.gone, fun j x hj => by
    obtain ⟨r1, r2, r3, r4, r5, r6⟩ := h.held j x hj
    exact ⟨r1, r2, r3, r4, r5, or_map r6 (Nat.le_trans hB) id⟩, h.apart⟩
/-- One copy is turned: its slice, its Boolean, its number. -/
theorem Model.turn {K : Nat} {hs : List (Option Hist)} (h : Model S K K MV MT MN mvs mts mns hs w1) {j : Nat} {x' : Hist} {g' o cp : Nat} {C : Array Value} (hj : j < K)
    (r1 : w'.ownsRow 0 71 1 (.slice (some ⟨MV, 0, none⟩) K K) K (mvs.set j (.slice (some ⟨g', o, none⟩) x'.vs.length cp))) (r2 : w'.ownsRow 0 4 1 (.slice (some ⟨MT, 0, none⟩) K K) K (mts.set j (.bool x'.tr))) (r3 : w'.ownsRow 0 24 1 (.slice (some ⟨MN, 0, none⟩) K K) K (mns.set j (.int .u64 x'.nt)))
    (hc : Chg (fun k => k = MV ∨ k = MT ∨ k = MN) w1 w') (hC : w1.heap[g']? = some (.cells C 82 (0, 0))) (hS : ¬ S g') (hv : ∀ i v, x'.vs[i]? = some v → VerAt w1 g' (o + i * 10) v) (h8 : x'.vs.length ≤ 8) (hd : x'.dropped = none) :
    Model S K K MV MT MN (mvs.set j (.slice (some ⟨g', o, none⟩) x'.vs.length cp)) (mts.set j (.bool x'.tr)) (mns.set j (.int .u64 x'.nt)) (hs.set j (some x')) w' := by
  have l1 : mvs.length = K := by have := h.mv.1; omega
  have l2 : mts.length = K := by have := h.mt.1; omega
  have l3 : mns.length = K := by have := h.mn.1; omega
  have ne3 : ∀ {k : Nat} {C : Array Value}, w1.heap[k]? = some (.cells C 82 (0, 0)) → ¬ (k = MV ∨ k = MT ∨ k = MN) := fun e u => by
    obtain ⟨C', t', e', ht⟩ := rows3 h.mv h.mt h.mn u
    have := cells_inj e e'
    rcases ht with rfl | rfl | rfl <;> exact absurd this (by decide)
  refine ⟨r1, r2, r3, fun i y hi hy => ?_⟩
  by_cases e : j = i
  · subst e
    rw [List.getElem?_set] at hy
    rw [if_pos rfl] at hy
    split at hy
    · simp only [Option.some.injEq] at hy
      subst hy
      have eg := hc.block g' (Array.getElem?_eq_some_iff.1 hC).1 (ne3 hC)
      exact ⟨g', o, cp, C, by simp [l1, hj], by simp [l2, hj], by simp [l3, hj], hS, eg.trans hC, fun i v hi => (hv i v hi).same eg, h8, fun q => absurd hd q⟩
    · cases hy
  · rw [List.getElem?_set_ne e] at hy
    obtain ⟨g0, o0, c0, C0, q1, q2, q3, q4, q5, q6, q7, q8⟩ := h.each i y hi hy
    have eg := hc.block g0 (Array.getElem?_eq_some_iff.1 q5).1 (ne3 q5)
    exact ⟨g0, o0, c0, C0, by rw [List.getElem?_set_ne e]; exact q1, by rw [List.getElem?_set_ne e]; exact q2, by rw [List.getElem?_set_ne e]; exact q3, q4, eg.trans q5, fun i v hi => (q6 i v hi).same eg, q7, fun hd => ⟨(q8 hd).1, (q8 hd).2.1, hc.row (q8 hd).2.2 (fun k hk u => by simp [Value.ownBlock] at hk; subst hk; exact ne3 q5 u)⟩⟩
end
/-- What stands in the fifth loop. -/
structure L5 (w : World) (DL : List DIn) (I : Nat) (kv lv : Value) (m : Nat) (KS : List ByteArray) (LS : List Nat) (T : Nat) (dm : Value) (MV MT MN : Nat) (ts sq ds : Int) (exv : Value) (ex : List Exc) (S : Nat → Prop) (VS : List Value) (hb g cap : Nat → Nat) (SB : Nat) (SS : List ByteArray) (cv ev : Value) (mvs mts mns : List Value) (st : St) (wr : World) : Prop where
  l2 : L2 w DL I kv lv m KS LS wr
  real : ∀ B, Real B S T ts sq KS dm VS hb g cap exv ⟨hists DL LS, ds, ex⟩ wr
  model : Model S KS.length KS.length MV MT MN mvs mts mns st.hs wr
  sch : SRow wr (.slice (some ⟨SB, 0, none⟩) SS.length SS.length) SS
  cpy : SRow wr cv SS
  exp : XRow wr ev st.ex
  schS : ¬ S SB
  cpyS : ∀ k, cv.ownBlock = some k → ¬ S k
  expS : ∀ k, ev.ownBlock = some k → ¬ S k
  expN : ∀ k, ev.ownBlock = some k → w.heap.size ≤ k
  lo : ∀ k, S k → w.heap.size ≤ k
  hi : ∀ k, S k → k < wr.heap.size
  sI : ¬ S I
  sK : ∀ k, kv.ownBlock = some k → ¬ S k
  sL : ∀ k, lv.ownBlock = some k → ¬ S k
  sM : ¬ S MV ∧ ¬ S MT ∧ ¬ S MN
  mN : w.heap.size ≤ MV ∧ w.heap.size ≤ MT ∧ w.heap.size ≤ MN
  nil : KS = [] → dm = .map none
section
variable {w : World} {DL : List DIn} {I : Nat} {kv lv : Value} {m : Nat} {KS : List ByteArray} {LS : List Nat} {T M MV MT MN : Nat} {ts sq ds : Int} {dm exv : Value} {ex : List Exc} {S : Nat → Prop} {VS : List Value} {hb g cap : Nat → Nat} {mvs mts mns : List Value} {wr w' wA w1 : World} {SB : Nat} {SS : List ByteArray} {cv ev : Value} {st : St}
theorem L5.same (h : L5 w DL I kv lv m KS LS T dm MV MT MN ts sq ds exv ex S VS hb g cap SB SS cv ev mvs mts mns st wr) (hc : Chg (fun _ => False) wr w') : L5 w DL I kv lv m KS LS T dm MV MT MN ts sq ds exv ex S VS hb g cap SB SS cv ev mvs mts mns st w' :=
  ⟨h.l2.keep hc (fun _ u => u.elim) (fun u => u) (fun _ _ u => u) (fun _ _ u => u), fun B => (h.real B).same hc, h.model.keep hc h.sM (fun _ u => u.elim), hc.row h.sch (fun _ _ u => u), hc.row h.cpy (fun _ _ u => u), hc.row h.exp (fun _ _ u => u), h.schS, h.cpyS, h.expS, h.expN, h.lo, fun k hk => Nat.lt_of_lt_of_le (h.hi k hk) hc.size, h.sI, h.sK, h.sL, h.sM, h.mN, h.nil⟩
/-- The three rows turn. -/
theorem L5.rows {hs' : List (Option Hist)} {mvs' mts' mns' : List Value} (h : L5 w DL I kv lv m KS LS T dm MV MT MN ts sq ds exv ex S VS hb g cap SB SS cv ev mvs mts mns st wr) (hc : Chg (fun k => k = MV ∨ k = MT ∨ k = MN) wr w') (hm : Model S KS.length KS.length MV MT MN mvs' mts' mns' hs' w') :
    L5 w DL I kv lv m KS LS T dm MV MT MN ts sq ds exv ex S VS hb g cap SB SS cv ev mvs' mts' mns' ⟨hs', st.ds, st.ex⟩ w' := by
  have out : ∀ {e size q : Nat} {u : Value} {xs : List Value}, wr.ownsRow 0 e size u q xs → e ≠ 71 → e ≠ 4 → e ≠ 24 → ∀ k, u.ownBlock = some k → ¬ (k = MV ∨ k = MT ∨ k = MN) := fun hr n1 n2 n3 k hk u => by
    obtain ⟨C', t', e', ht⟩ := rows3 h.model.mv h.model.mt h.model.mn u
    refine XRow.type hr e' ?_ hk
    rcases ht with rfl | rfl | rfl
    · exact fun q => n1 q.symm
    · exact fun q => n2 q.symm
    · exact fun q => n3 q.symm
  exact ⟨h.l2.rows h.model.mv h.model.mt h.model.mn h.mN hc, fun B => (h.real B).rows h.model.mv h.model.mt h.model.mn hc, hm, hc.row h.sch (out h.sch (by decide) (by decide) (by decide)), hc.row h.cpy (out h.cpy (by decide) (by decide) (by decide)), hc.row h.exp (out h.exp (by decide) (by decide) (by decide)), h.schS, h.cpyS, h.expS, h.expN, h.lo, fun k hk => Nat.lt_of_lt_of_le (h.hi k hk) hc.size, h.sI, h.sK, h.sL, h.sM, h.mN, h.nil⟩
/-- One more exclusion. -/
theorem L5.more {hs' : List (Option Hist)} (h : L5 w DL I kv lv m KS LS T dm MV MT MN ts sq ds exv ex S VS hb g cap SB SS cv ev mvs mts mns ⟨hs', st.ds, st.ex⟩ wr) {o : Obj} {g1 cp H : Nat} {x : Exc} {d' : Int}
    (hown : w1.ownsRow 0 86 4 (.slice (some ⟨g1, 0, none⟩) (st.ex.length + 1) cp) (st.ex.length + 1) (xcells st.ex ++ x.cells)) (hg : (wr.alloc o).grownBy w1 ev.ownBlock) (hat : ev.ownBlock = some g1 ∨ g1 = wr.heap.size + H) :
    L5 w DL I kv lv m KS LS T dm MV MT MN ts sq ds exv ex S VS hb g cap SB SS cv (.slice (some ⟨g1, 0, none⟩) (st.ex.length + 1) cp) mvs mts mns ⟨hs', d', st.ex ++ [x]⟩ w1 := by
  have hc : Chg (fun k => ev.ownBlock = some k) wr w1 := (Chg.alloc _ wr o).trans (grown_chg hg)
  have key : ∀ k C t fr, ev.ownBlock = some k → wr.heap[k]? = some (.cells C t fr) → t = 86 := fun k C t fr hk e => by
    by_cases q : t = 86
    · exact q
    · exact absurd hk (XRow.type h.exp e q)
  have own : ∀ k, (Value.slice (some ⟨g1, 0, none⟩) (st.ex.length + 1) cp).ownBlock = some k → k = g1 := fun k hk => by simp [Value.ownBlock] at hk; exact hk.symm
  have hsz := h.l2.below.size
  refine ⟨h.l2.keep hc (fun k u => h.expN k u) (map_ne h.l2.map h.exp) (fun k hk e => row_ne h.l2.keys h.exp (by decide) hk e) (fun k hk e => row_ne h.l2.last h.exp (by decide) hk e), fun B => ((h.real (B + wr.heap.size)).keep hc (fun k C t fr u e => ?_) (fun M hM u => ?_)).le (Nat.le_add_right _ _), h.model.keep hc h.sM (fun k u => .inr (fun C t fr e => ?_)), hc.row h.sch (fun k hk e => row_ne h.sch h.exp (by decide) hk e), hc.row h.cpy (fun k hk e => row_ne h.cpy h.exp (by decide) hk e), ?_, h.schS, h.cpyS, fun k hk => ?_, fun k hk => ?_, h.lo, fun k hk => Nat.lt_of_lt_of_le (h.hi k hk) hc.size, h.sI, h.sK, h.sL, h.sM, h.mN, h.nil⟩
  · have := key k C t fr u e
    subst this
    refine ⟨by decide, by decide, fun _ k' hk' q => ?_⟩
    have hn := h.expS k u
    have hlt := (h.exp.lt k u).2
    rcases hk' with q1 | q1
    · exact hn (q ▸ q1)
    · omega
  · rcases h.exp.2 with ⟨e0, _⟩ | ⟨g0, c0, cur, e0, _, e1, _⟩
    · rw [e0] at u; simp [Value.ownBlock] at u
    · rw [e0] at u; simp [Value.ownBlock] at u; exact map_type (h.real 0).drops hM e1 u.symm
  · have := key k C t fr u e
    subst this
    decide
  · rw [xcells_snoc] at hown
    show w1.ownsRow 0 86 4 _ (st.ex ++ [x]).length _
    rw [List.length_append]
    exact hown
  · rw [own k hk]
    rcases hat with e | e
    · exact h.expS _ e
    · exact fun q => by have := h.hi _ q; omega
  · rw [own k hk]
    rcases hat with e | e
    · exact h.expN _ e
    · omega
theorem set_same {l : List Value} {j : Nat} {u : Value} (h : l[j]? = some u) : l.set j u = l := by
  apply List.ext_getElem?
  intro i
  rw [List.getElem?_set]
  by_cases e : j = i
  · subst e
    rw [if_pos rfl, if_pos (List.getElem?_eq_some_iff.1 h).1, h]
  · rw [if_neg e]
/-- The versions behind the append. -/
theorem vers_at {g1 cp n : Nat} {vs : List Ver} {nv : Ver} (hn : vs.length = n) (hr : w1.ownsRow 0 82 10 (.slice (some ⟨g1, 0, none⟩) (n + 1) cp) (n + 1) (vcells vs ++ nv.cells)) {i : Nat} {v : Ver} (hi : (vs ++ [nv])[i]? = some v) : VerAt w1 g1 (i * 10) v := by
  rw [vcells_snoc] at hr
  have hl : (vs ++ [nv]).length = n + 1 := by simp [hn]
  have hr' : VRow w1 (.slice (some ⟨g1, 0, none⟩) (vs ++ [nv]).length cp) (vs ++ [nv]) := by
    show w1.ownsRow 0 82 10 _ (vs ++ [nv]).length _
    rw [hl]; exact hr
  exact VRow.at hr' hi
theorem L5.short (h : L5 w DL I kv lv m KS LS T dm MV MT MN ts sq ds exv ex S VS hb g cap SB SS cv ev mvs mts mns st wr) {s : ByteArray} {j : Nat} {x : Hist} {v : Ver} (ha : st.at KS s = some (j, x, v)) (hj : j < KS.length) (hn : x.vs.length < 8) {g1 cp : Nat} {X : Int} (hc : Chg (fun _ => False) wr w1)
    (hr : w1.ownsRow 0 82 10 (.slice (some ⟨g1, 0, none⟩) (x.vs.length + 1) cp) (x.vs.length + 1) (vcells x.vs ++ (Ver.mk ts sq v.sc v.tb false).cells)) (hg : wr.heap.size ≤ g1) (hX : X = max x.nt ts) :
    ∃ mvs' mts' mns', L5 w DL I kv lv m KS LS T dm MV MT MN ts sq ds exv ex S VS hb g cap SB SS cv ev mvs' mts' mns' ⟨st.hs.set j (some (x.push ⟨ts, sq, v.sc, v.tb, false⟩)), st.ds, st.ex⟩ ((w1.setCell ⟨MV, j, none⟩ (.slice (some ⟨g1, 0, none⟩) (x.vs.length + 1) cp)).setCell ⟨MN, j, none⟩ (.int .u64 X)) := by
  obtain ⟨a1, a2, a3, a4⟩ := at_some ha
  have h1 := h.same hc
  obtain ⟨g0, o0, c0, C0, q1, q2, q3, q4, q5, q6, q7, q8⟩ := h1.model.each j x hj a2
  have ep : x.push ⟨ts, sq, v.sc, v.tb, false⟩ = ⟨x.vs ++ [⟨ts, sq, v.sc, v.tb, false⟩], x.tr, max x.nt ts, x.wb, x.hs, x.dt⟩ := by
    have : ¬ x.vs.length = 8 := by omega
    simp [Hist.push, this]
  obtain ⟨ra1, ra2, ra3, ra4, ra5, ra6⟩ : MV ≠ MT ∧ MV ≠ MN ∧ MT ≠ MN ∧ MT ≠ MV ∧ MN ≠ MV ∧ MN ≠ MT := by
    have n1 : MV ≠ MT := fun e => row_ne h1.model.mv h1.model.mt (by decide) (k := MV) rfl (by rw [e]; rfl)
    have n2 : MV ≠ MN := fun e => row_ne h1.model.mv h1.model.mn (by decide) (k := MV) rfl (by rw [e]; rfl)
    have n3 : MT ≠ MN := fun e => row_ne h1.model.mt h1.model.mn (by decide) (k := MT) rfl (by rw [e]; rfl)
    exact ⟨n1, n2, n3, n1.symm, n2.symm, n3.symm⟩
  obtain ⟨C, hC⟩ := row_block hr
  have own : ∀ {b K c k : Nat} , (Value.slice (some ⟨b, 0, none⟩) K c).ownBlock = some k → k = b := fun hk => by simp [Value.ownBlock] at hk; exact hk.symm
  have c1 : Chg (fun k => k = MV) w1 (w1.setCell ⟨MV, j, none⟩ (.slice (some ⟨g1, 0, none⟩) (x.vs.length + 1) cp)) := (Chg.refl (fun k => k = MV) w1).setCell ⟨MV, j, none⟩ _ (fun _ => rfl)
  have c2 : Chg (fun k => k = MN) (w1.setCell ⟨MV, j, none⟩ (.slice (some ⟨g1, 0, none⟩) (x.vs.length + 1) cp)) ((w1.setCell ⟨MV, j, none⟩ (.slice (some ⟨g1, 0, none⟩) (x.vs.length + 1) cp)).setCell ⟨MN, j, none⟩ (.int .u64 X)) := (Chg.refl (fun k => k = MN) _).setCell ⟨MN, j, none⟩ _ (fun _ => rfl)
  have r1 := c2.row (row_set h1.model.mv j (.slice (some ⟨g1, 0, none⟩) (x.vs.length + 1) cp)) (fun k hk e => ra2 (by rw [← own hk, e]))
  have r2 := c2.row (c1.row h1.model.mt (fun k hk e => ra1 (by rw [← own hk, e]))) (fun k hk e => ra3 (by rw [← own hk, e]))
  have r3 := row_set (c1.row h1.model.mn (fun k hk e => ra2 (by rw [← own hk, e]))) j (.int .u64 X)
  have cc : Chg (fun k => k = MV ∨ k = MT ∨ k = MN) w1 ((w1.setCell ⟨MV, j, none⟩ (.slice (some ⟨g1, 0, none⟩) (x.vs.length + 1) cp)).setCell ⟨MN, j, none⟩ (.int .u64 X)) := (c1.mono (fun _ _ e => .inl e)).trans (c2.mono (fun _ _ e => .inr (.inr e)))
  rw [hX] at r1 r2 r3 cc ⊢
  have hl : (x.vs ++ [(⟨ts, sq, v.sc, v.tb, false⟩ : Ver)]).length = x.vs.length + 1 := by simp
  rw [← set_same q2] at r2
  rw [ep]
  have hd := push_not x ⟨ts, sq, v.sc, v.tb, false⟩ rfl
  rw [ep] at hd
  have hm := Model.turn (x' := ⟨x.vs ++ [⟨ts, sq, v.sc, v.tb, false⟩], x.tr, max x.nt ts, x.wb, x.hs, x.dt⟩) (g' := g1) (o := 0) (cp := cp) h1.model hj (by rw [hl]; exact r1) r2 r3 cc hC (fun q => by have := h.hi g1 q; omega) (fun i u hi => by rw [Nat.zero_add]; exact vers_at rfl hr hi) (by rw [hl]; omega) hd
  exact ⟨_, _, _, h1.rows cc hm⟩
theorem L5.full (h : L5 w DL I kv lv m KS LS T dm MV MT MN ts sq ds exv ex S VS hb g cap SB SS cv ev mvs mts mns st wr) {s : ByteArray} {j : Nat} {x : Hist} {v : Ver} (ha : st.at KS s = some (j, x, v)) (hj : j < KS.length) (hn : x.vs.length = 8) {g1 cp cp' : Nat} {X : Int} (hc : Chg (fun _ => False) wr w1)
    (hr : w1.ownsRow 0 82 10 (.slice (some ⟨g1, 0, none⟩) (8 + 1) cp) (8 + 1) (vcells x.vs ++ (Ver.mk ts sq v.sc v.tb false).cells)) (hg : wr.heap.size ≤ g1) (hX : X = max x.nt ts) :
    ∃ mvs' mts' mns', L5 w DL I kv lv m KS LS T dm MV MT MN ts sq ds exv ex S VS hb g cap SB SS cv ev mvs' mts' mns' ⟨st.hs.set j (some (x.push ⟨ts, sq, v.sc, v.tb, false⟩)), st.ds, st.ex⟩ (((w1.setCell ⟨MT, j, none⟩ (.bool true)).setCell ⟨MV, j, none⟩ (.slice (some ⟨g1, 10, none⟩) 8 cp')).setCell ⟨MN, j, none⟩ (.int .u64 X)) := by
  obtain ⟨a1, a2, a3, a4⟩ := at_some ha
  have h1 := h.same hc
  have ep : x.push ⟨ts, sq, v.sc, v.tb, false⟩ = ⟨x.vs.tail ++ [⟨ts, sq, v.sc, v.tb, false⟩], true, max x.nt ts, x.wb, x.hs, x.dt⟩ := by simp [Hist.push, hn]
  obtain ⟨ra1, ra2, ra3, ra4, ra5, ra6⟩ : MV ≠ MT ∧ MV ≠ MN ∧ MT ≠ MN ∧ MT ≠ MV ∧ MN ≠ MV ∧ MN ≠ MT := by
    have n1 : MV ≠ MT := fun e => row_ne h1.model.mv h1.model.mt (by decide) (k := MV) rfl (by rw [e]; rfl)
    have n2 : MV ≠ MN := fun e => row_ne h1.model.mv h1.model.mn (by decide) (k := MV) rfl (by rw [e]; rfl)
    have n3 : MT ≠ MN := fun e => row_ne h1.model.mt h1.model.mn (by decide) (k := MT) rfl (by rw [e]; rfl)
    exact ⟨n1, n2, n3, n1.symm, n2.symm, n3.symm⟩
  obtain ⟨C, hC⟩ := row_block hr
  have own : ∀ {b K c k : Nat} , (Value.slice (some ⟨b, 0, none⟩) K c).ownBlock = some k → k = b := fun hk => by simp [Value.ownBlock] at hk; exact hk.symm
  have c0 : Chg (fun k => k = MT) w1 (w1.setCell ⟨MT, j, none⟩ (.bool true)) := (Chg.refl (fun k => k = MT) w1).setCell ⟨MT, j, none⟩ _ (fun _ => rfl)
  have c1 : Chg (fun k => k = MV) (w1.setCell ⟨MT, j, none⟩ (.bool true)) ((w1.setCell ⟨MT, j, none⟩ (.bool true)).setCell ⟨MV, j, none⟩ (.slice (some ⟨g1, 10, none⟩) 8 cp')) := (Chg.refl (fun k => k = MV) _).setCell ⟨MV, j, none⟩ _ (fun _ => rfl)
  have c2 : Chg (fun k => k = MN) ((w1.setCell ⟨MT, j, none⟩ (.bool true)).setCell ⟨MV, j, none⟩ (.slice (some ⟨g1, 10, none⟩) 8 cp')) (((w1.setCell ⟨MT, j, none⟩ (.bool true)).setCell ⟨MV, j, none⟩ (.slice (some ⟨g1, 10, none⟩) 8 cp')).setCell ⟨MN, j, none⟩ (.int .u64 X)) := (Chg.refl (fun k => k = MN) _).setCell ⟨MN, j, none⟩ _ (fun _ => rfl)
  have r1 := c2.row (row_set (c0.row h1.model.mv (fun k hk e => ra1 (by rw [← own hk, e]))) j (.slice (some ⟨g1, 10, none⟩) 8 cp')) (fun k hk e => ra2 (by rw [← own hk, e]))
  have r2 := c2.row (c1.row (row_set h1.model.mt j (.bool true)) (fun k hk e => ra4 (by rw [← own hk, e]))) (fun k hk e => ra3 (by rw [← own hk, e]))
  have r3 := row_set (c1.row (c0.row h1.model.mn (fun k hk e => ra6 (by rw [← own hk, e]))) (fun k hk e => ra5 (by rw [← own hk, e]))) j (.int .u64 X)
  have cc : Chg (fun k => k = MV ∨ k = MT ∨ k = MN) w1 (((w1.setCell ⟨MT, j, none⟩ (.bool true)).setCell ⟨MV, j, none⟩ (.slice (some ⟨g1, 10, none⟩) 8 cp')).setCell ⟨MN, j, none⟩ (.int .u64 X)) := ((c0.mono (fun _ _ e => .inr (.inl e))).trans (c1.mono (fun _ _ e => .inl e))).trans (c2.mono (fun _ _ e => .inr (.inr e)))
  rw [hX] at r1 r2 r3 cc ⊢
  have hl : (x.vs.tail ++ [(⟨ts, sq, v.sc, v.tb, false⟩ : Ver)]).length = 8 := by simp [hn]
  rw [ep]
  have hd := push_not x ⟨ts, sq, v.sc, v.tb, false⟩ rfl
  rw [ep] at hd
  have hm := Model.turn (x' := ⟨x.vs.tail ++ [⟨ts, sq, v.sc, v.tb, false⟩], true, max x.nt ts, x.wb, x.hs, x.dt⟩) (g' := g1) (o := 10) (cp := cp') h1.model hj (by rw [hl]; exact r1) r2 r3 cc hC (fun q => by have := h.hi g1 q; omega) (fun i u hi => by
    have e : 10 + i * 10 = (i + 1) * 10 := by omega
    rw [e]
    refine vers_at hn hr ?_
    match hv : x.vs, hn with
    | y :: r, _ => rw [hv] at hi; exact hi) (by rw [hl]; omega) hd
  exact ⟨_, _, _, h1.rows cc hm⟩
end
end Go.Proofs.Ybulkexohm
