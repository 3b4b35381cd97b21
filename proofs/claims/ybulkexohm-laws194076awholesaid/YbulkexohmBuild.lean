/-
  The law's third loop: the Tables' histories and the law's own copies.
-/
import Derived.Test.YbulkexohmKeys
namespace Go.Proofs.Ybulkexohm
open Go.RowKit Go.Maps
set_option linter.unusedVariables false
def hist0 (d : DIn) : Option Hist := if d.nl then none else some ⟨d.vs.take 8, d.tr, d.nt, d.wb, d.hs, d.dt⟩
def hists (DL : List DIn) (LS : List Nat) : List (Option Hist) := LS.map fun l => (DL[l]?).bind hist0
theorem hists_get {DL : List DIn} {LS : List Nat} {j l : Nat} {d : DIn} (h1 : LS[j]? = some l) (h2 : DL[l]? = some d) : (hists DL LS)[j]? = some (hist0 d) := by simp [hists, h1, h2]

/-- The law's own copies: rows of slices, of Booleans, of numbers. -/
structure Model (S : Nat → Prop) (K nm MV MT MN : Nat) (mvs mts mns : List Value) (hs : List (Option Hist)) (wr : World) : Prop where
  mv : wr.ownsRow 0 71 1 (.slice (some ⟨MV, 0, none⟩) K K) K mvs
  mt : wr.ownsRow 0 4 1 (.slice (some ⟨MT, 0, none⟩) K K) K mts
  mn : wr.ownsRow 0 24 1 (.slice (some ⟨MN, 0, none⟩) K K) K mns
  each : ∀ (j : Nat) (h : Hist), j < nm → hs[j]? = some (some h) → ∃ g o cap C, mvs[j]? = some (.slice (some ⟨g, o, none⟩) h.vs.length cap) ∧ mts[j]? = some (.bool h.tr) ∧ mns[j]? = some (.int .u64 h.nt) ∧ ¬ S g ∧ wr.heap[g]? = some (.cells C 82 (0, 0)) ∧ (∀ i v, h.vs[i]? = some v → VerAt wr g (o + i * 10) v) ∧ h.vs.length ≤ 8 ∧
    (h.dropped ≠ none → o = 0 ∧ cap = h.vs.length ∧ VRow wr (.slice (some ⟨g, 0, none⟩) h.vs.length h.vs.length) h.vs)
theorem VerAt.same {w w' : World} {g o : Nat} {v : Ver} (h : VerAt w g o v) (e : w'.heap[g]? = w.heap[g]?) : VerAt w' g o v := by
  have k : ∀ i, w'.cell? ⟨g, i, none⟩ = w.cell? ⟨g, i, none⟩ := fun i => World.cell?_of_block (a := ⟨g, i, none⟩) e
  exact ⟨(k _).trans h.c0, (k _).trans h.c1, (k _).trans h.c2, (k _).trans h.c3, (k _).trans h.c4, (k _).trans h.c5, (k _).trans h.c6, (k _).trans h.c7, (k _).trans h.c8, (k _).trans h.c9⟩
theorem row_block {w : World} {g cap n e size : Nat} {xs : List Value} (h : w.ownsRow 0 e size (.slice (some ⟨g, 0, none⟩) n cap) n xs) : ∃ C, w.heap[g]? = some (.cells C e (0, 0)) := VRow.block h
/-- Blocks of other types may turn, and those of 'S'. -/
theorem Model.keep {S U : Nat → Prop} {K nm MV MT MN : Nat} {mvs mts mns : List Value} {hs : List (Option Hist)} {wr w' : World} (h : Model S K nm MV MT MN mvs mts mns hs wr) (hc : Chg U wr w')
    (hS : ¬ S MV ∧ ¬ S MT ∧ ¬ S MN) (hU : ∀ k, U k → S k ∨ ∀ C t fr, wr.heap[k]? = some (.cells C t fr) → t ≠ 71 ∧ t ≠ 4 ∧ t ≠ 24 ∧ t ≠ 82) : Model S K nm MV MT MN mvs mts mns hs w' := by
  obtain ⟨C1, h1⟩ := row_block h.mv
  obtain ⟨C2, h2⟩ := row_block h.mt
  obtain ⟨C3, h3⟩ := row_block h.mn
  refine ⟨hc.row h.mv (fun k hk u => ?_), hc.row h.mt (fun k hk u => ?_), hc.row h.mn (fun k hk u => ?_), fun j x hj hx => ?_⟩
  · simp [Value.ownBlock] at hk; subst hk
    exact (hU _ u).elim hS.1 (fun q => (q _ _ _ h1).1 rfl)
  · simp [Value.ownBlock] at hk; subst hk
    exact (hU _ u).elim hS.2.1 (fun q => (q _ _ _ h2).2.1 rfl)
  · simp [Value.ownBlock] at hk; subst hk
    exact (hU _ u).elim hS.2.2 (fun q => (q _ _ _ h3).2.2.1 rfl)
  · obtain ⟨g, o, cap, C, r1, r2, r3, r4, r5, r6, r7, r8⟩ := h.each j x hj hx
    have nu : ¬ U g := fun u => (hU _ u).elim r4 (fun q => (q _ _ _ r5).2.2.2 rfl)
    have eg := hc.block g (Array.getElem?_eq_some_iff.1 r5).1 nu
    exact ⟨g, o, cap, C, r1, r2, r3, r4, eg.trans r5, fun i v hi => (r6 i v hi).same eg, r7, fun hd => ⟨(r8 hd).1, (r8 hd).2.1, hc.row (r8 hd).2.2 (fun k hk u => by simp [Value.ownBlock] at hk; subst hk; exact nu u)⟩⟩
theorem L2.keep {w : World} {DL : List DIn} {I : Nat} {kv lv : Value} {m : Nat} {KS : List ByteArray} {LS : List Nat} {wr w' : World} {U : Nat → Prop} (h : L2 w DL I kv lv m KS LS wr) (hc : Chg U wr w')
    (hlo : ∀ k, U k → w.heap.size ≤ k) (hI : ¬ U I) (hk : ∀ k, kv.ownBlock = some k → ¬ U k) (hl : ∀ k, lv.ownBlock = some k → ¬ U k) : L2 w DL I kv lv m KS LS w' :=
  ⟨h.below.trans (hc.below (fun i hi u => by have := hlo i u; omega) h.below.size), h.map.same (hc.block I h.map.lt hI), h.mapN, hc.row h.keys hk, h.keysN, hc.row h.last hl, h.lastN, h.len, h.lastLt, h.ksz, h.msz, h.nodup⟩

theorem take_snoc {α : Type} {l : List α} {n : Nat} {x : α} (h : l[n]? = some x) : l.take (n + 1) = l.take n ++ [x] := by rw [List.take_add_one, h]; rfl
/-- What stands in the third loop: 'nr' keys lie in the Tables, 'nm' of them in the copies. -/
structure L3 (w : World) (DL : List DIn) (I : Nat) (kv lv : Value) (m : Nat) (KS : List ByteArray) (LS : List Nat) (T M MV MT MN : Nat) (ts sq ds : Int) (exv : Value) (ex : List Exc) (S : Nat → Prop) (VS : List Value) (hb g cap : Nat → Nat) (mvs mts mns : List Value) (nr nm : Nat) (wr : World) : Prop where
  l2 : L2 w DL I kv lv m KS LS wr
  real : ∀ B, Real B S T ts sq (KS.take nr) (.map (some M)) VS hb g cap exv ⟨(hists DL LS).take nr, ds, ex⟩ wr
  model : Model S KS.length nm MV MT MN mvs mts mns (hists DL LS) wr
  lo : ∀ k, S k → w.heap.size ≤ k
  hi : ∀ k, S k → k < wr.heap.size
  sI : ¬ S I
  sK : ∀ k, kv.ownBlock = some k → ¬ S k
  sL : ∀ k, lv.ownBlock = some k → ¬ S k
  sM : ¬ S MV ∧ ¬ S MT ∧ ¬ S MN
  mN : w.heap.size ≤ M ∧ w.heap.size ≤ MV ∧ w.heap.size ≤ MT ∧ w.heap.size ≤ MN
  neI : I ≠ M
  vlen : VS.length = nr
section
variable {w : World} {DL : List DIn} {I : Nat} {kv lv : Value} {m : Nat} {KS : List ByteArray} {LS : List Nat} {T M MV MT MN : Nat} {ts sq ds : Int} {exv : Value} {ex : List Exc} {S : Nat → Prop} {VS : List Value} {hb g cap : Nat → Nat} {mvs mts mns : List Value} {nr nm n : Nat} {wr w' : World}
theorem L3.same (h : L3 w DL I kv lv m KS LS T M MV MT MN ts sq ds exv ex S VS hb g cap mvs mts mns nr nm wr) (hc : Chg (fun _ => False) wr w') : L3 w DL I kv lv m KS LS T M MV MT MN ts sq ds exv ex S VS hb g cap mvs mts mns nr nm w' :=
  ⟨h.l2.keep hc (fun _ u => u.elim) (fun u => u) (fun _ _ u => u) (fun _ _ u => u), fun B => (h.real B).same hc, h.model.keep hc h.sM (fun _ u => u.elim), h.lo, fun k hk => Nat.lt_of_lt_of_le (h.hi k hk) hc.size, h.sI, h.sK, h.sL, h.sM, h.mN, h.neI, h.vlen⟩
theorem Model.more {S S' : Nat → Prop} {K : Nat} {hs : List (Option Hist)} (h : Model S K nm MV MT MN mvs mts mns hs wr) (hS : ∀ k, S' k → S k ∨ wr.heap.size ≤ k) : Model S' K nm MV MT MN mvs mts mns hs wr :=
  ⟨h.mv, h.mt, h.mn, fun j x hj hx => by
    obtain ⟨g, o, cap, C, r1, r2, r3, r4, r5, r6⟩ := h.each j x hj hx
    exact ⟨g, o, cap, C, r1, r2, r3, fun k => (hS g k).elim r4 (fun e => by have := (Array.getElem?_eq_some_iff.1 r5).1; omega), r5, r6⟩⟩
/-- One more key in the Tables. -/
theorem L3.put (h : L3 w DL I kv lv m KS LS T M MV MT MN ts sq ds exv ex S VS hb g cap mvs mts mns n nm wr) {s : ByteArray} (hs : KS[n]? = some s) {o : Option Hist} (hh : (hists DL LS)[n]? = some o) (hc : Chg (fun k => k = M) wr w')
    {v : Value} (hm : MapIs w' M (KS.take n ++ [s]) (VS ++ [v])) {S' : Nat → Prop} {hb' g' cap' : Nat → Nat} (hS : ∀ k, S' k → S k ∨ (wr.heap.size ≤ k ∧ k < w'.heap.size)) (hS0 : ∀ k, S k → S' k)
    (hold : ∀ j, j < n → hb' j = hb j ∧ g' j = g j ∧ cap' j = cap j) (hnil : o = none → v = .pointer none)
    (hsome : ∀ x, o = some x → v = .pointer (some ⟨hb' n, 0, none⟩) ∧ HistIs w' (hb' n) (g' n) (cap' n) x ∧ x.vs.length ≤ 8 ∧ (x.dropped ≠ none → cap' n = x.vs.length) ∧ S' (hb' n) ∧ S' (g' n) ∧ wr.heap.size ≤ hb' n ∧ wr.heap.size ≤ g' n) :
    L3 w DL I kv lv m KS LS T M MV MT MN ts sq ds exv ex S' (VS ++ [v]) hb' g' cap' mvs mts mns (n + 1) nm w' := by
  have hR := h.real 0
  obtain ⟨MC, Mk, hMk⟩ : ∃ es c, wr.heap[M]? = some (.map es c) := by
    rcases hR.drops with ⟨e, _⟩ | ⟨M', e, hM', _⟩
    · cases e
    · cases e; exact hM'.isMap
  have nocell : ∀ C t fr, wr.heap[M]? ≠ some (.cells C t fr) := fun C t fr e => by rw [hMk] at e; cases e
  obtain ⟨CT, hCT, _⟩ := id hR.tab
  have hKl : n < KS.length := (List.getElem?_eq_some_iff.1 hs).1
  have hHl : n < (hists DL LS).length := (List.getElem?_eq_some_iff.1 hh).1
  have hlen : ((hists DL LS).take n).length = n := by rw [List.length_take]; omega
  have hlen2 : (hists DL LS).length = KS.length := by rw [← h.l2.len]; simp [hists]
  have nS : ∀ k, k < wr.heap.size → ¬ S k → ¬ S' k := fun k hk hn hs => (hS k hs).elim hn (fun e => by omega)
  have noRow : ∀ {e size q : Nat} {u : Value} {xs : List Value}, wr.ownsRow 0 e size u q xs → ∀ k, u.ownBlock = some k → k = M → False := fun hr k hk e => by
    rcases hr.2 with ⟨rfl, _⟩ | ⟨g0, c0, cur, rfl, _, e2, _⟩
    · simp [Value.ownBlock] at hk
    · simp [Value.ownBlock] at hk; exact nocell _ _ _ (by rw [← e, ← hk]; exact e2)
  have rowLt : ∀ {e size q : Nat} {u : Value} {xs : List Value}, wr.ownsRow 0 e size u q xs → ∀ k, u.ownBlock = some k → k < wr.heap.size := fun hr k hk => (hr.lt k hk).2
  refine ⟨h.l2.keep hc (fun k u => u ▸ h.mN.1) h.neI (noRow h.l2.keys) (noRow h.l2.last), fun B => ?_, (h.model.more (fun k hk => or_map (hS k hk) id (fun e => e.1))).keep hc ⟨nS _ (rowLt h.model.mv _ rfl) h.sM.1, nS _ (rowLt h.model.mt _ rfl) h.sM.2.1, nS _ (rowLt h.model.mn _ rfl) h.sM.2.2⟩ (fun k u => .inr (fun C t fr e => absurd e (u ▸ nocell C t fr))), fun k hk => (hS k hk).elim (h.lo k) (fun e => Nat.le_trans h.l2.below.size e.1), fun k hk => (hS k hk).elim (fun e => Nat.lt_of_lt_of_le (h.hi k e) hc.size) (fun e => e.2), nS _ h.l2.map.lt h.sI, fun k hk => nS k (rowLt h.l2.keys k hk) (h.sK k hk), fun k hk => nS k (rowLt h.l2.last k hk) (h.sL k hk), ⟨nS _ (rowLt h.model.mv _ rfl) h.sM.1, nS _ (rowLt h.model.mt _ rfl) h.sM.2.1, nS _ (rowLt h.model.mn _ rfl) h.sM.2.2⟩, h.mN, h.neI, by simp [h.vlen]⟩
  have h0 := h.real B
  have split : ∀ (j : Nat) (q : Option Hist), ((hists DL LS).take (n + 1))[j]? = some q → (j < n ∧ ((hists DL LS).take n)[j]? = some q) ∨ (j = n ∧ q = o) := fun j q hj => by
    rw [take_snoc hh, List.getElem?_append] at hj
    by_cases hjn : j < n
    · rw [if_pos (by omega)] at hj
      exact .inl ⟨hjn, hj⟩
    · rw [if_neg (by omega)] at hj
      have := (List.getElem?_eq_some_iff.1 hj).1
      simp at this
      have e0 : j = n := by omega
      rw [e0, hlen] at hj
      simp at hj
      exact .inr ⟨e0, hj.symm⟩
  have vOld : ∀ j, j < n → (VS ++ [v])[j]? = VS[j]? := fun j hj => by rw [List.getElem?_append, if_pos (by rw [h.vlen]; exact hj)]
  have vNew : (VS ++ [v])[n]? = some v := by rw [List.getElem?_append, if_neg (by rw [h.vlen]; omega), h.vlen]; simp
  refine ⟨h0.tab.same (hc.block T h0.tab.lt (fun u => nocell _ _ _ (u ▸ hCT))), hS0 T h0.tabS, hc.row h0.row (noRow h0.row), fun k hk => or_map (h0.rowS k hk) id (hS0 k), .inr ⟨M, rfl, by rw [take_snoc hs]; exact hm, trivial⟩, by show ((hists DL LS).take (n + 1)).length = _; rw [List.length_take, List.length_take, hlen2], fun j hj => ?_, fun j x hj => ?_, fun i j x y hi hj e => ?_⟩
  · rcases split j none hj with ⟨hjn, hj⟩ | ⟨rfl, e⟩
    · rw [vOld j hjn]; exact h0.gone j hj
    · rw [vNew, hnil e.symm]
  · rcases split j (some x) hj with ⟨hjn, hj⟩ | ⟨rfl, e⟩
    · obtain ⟨r1, r2, r3, r4, r5, r6⟩ := h0.held j x hj
      obtain ⟨D, hD⟩ := VRow.block r2.row
      have hat := r2.at_
      unfold HistAt at hat
      obtain ⟨q1, q2, q3⟩ := hold j hjn
      rw [q1, q2, q3, vOld j hjn]
      exact ⟨r1, r2.same (hc.block _ r2.lt.1 (fun u => nocell _ _ _ (u ▸ hat))) (hc.block _ r2.lt.2 (fun u => nocell _ _ _ (u ▸ hD))), r3, r4, hS0 _ r5, or_map r6 id (hS0 _)⟩
    · obtain ⟨r1, r2, r3, r4, r5, r6, _⟩ := hsome x e.symm
      rw [vNew, r1]
      exact ⟨rfl, r2, r3, r4, r5, .inr r6⟩
  · rcases split i (some x) hi with ⟨hin, hi⟩ | ⟨rfl, ei⟩
    · have li := (h0.held i x hi).2.1.lt
      obtain ⟨q1, q2, q3⟩ := hold i hin
      rcases split j (some y) hj with ⟨hjn, hj⟩ | ⟨rfl, ej⟩
      · obtain ⟨p1, p2, p3⟩ := hold j hjn
        rw [q1, q2, p1, p2] at e
        exact h0.apart i j x y hi hj e
      · obtain ⟨_, _, _, _, _, _, r7, r8⟩ := hsome y ej.symm
        rw [q1, q2] at e
        omega
    · obtain ⟨_, _, _, _, _, _, r7, r8⟩ := hsome x ei.symm
      rcases split j (some y) hj with ⟨hjn, hj⟩ | ⟨rfl, ej⟩
      · obtain ⟨p1, p2, p3⟩ := hold j hjn
        have lj := (h0.held j y hj).2.1.lt
        rw [p1, p2] at e
        omega
      · rfl
theorem L3.skip (h : L3 w DL I kv lv m KS LS T M MV MT MN ts sq ds exv ex S VS hb g cap mvs mts mns nr n wr) (hh : (hists DL LS)[n]? = some none) : L3 w DL I kv lv m KS LS T M MV MT MN ts sq ds exv ex S VS hb g cap mvs mts mns nr (n + 1) wr :=
  ⟨h.l2, h.real, ⟨h.model.mv, h.model.mt, h.model.mn, fun j x hj hx => by
    by_cases e : j = n
    · rw [e, hh] at hx; cases hx
    · exact h.model.each j x (by omega) hx⟩, h.lo, h.hi, h.sI, h.sK, h.sL, h.sM, h.mN, h.neI, h.vlen⟩
/-- Three stores into three rows. -/
theorem three {w1 : World} {K : Nat} (hmv : w1.ownsRow 0 71 1 (.slice (some ⟨MV, 0, none⟩) K K) K mvs) (hmt : w1.ownsRow 0 4 1 (.slice (some ⟨MT, 0, none⟩) K K) K mts) (hmn : w1.ownsRow 0 24 1 (.slice (some ⟨MN, 0, none⟩) K K) K mns) (n : Nat) (u1 u2 u3 : Value) :
    (((w1.setCell ⟨MV, n, none⟩ u1).setCell ⟨MT, n, none⟩ u2).setCell ⟨MN, n, none⟩ u3).ownsRow 0 71 1 (.slice (some ⟨MV, 0, none⟩) K K) K (mvs.set n u1) ∧ (((w1.setCell ⟨MV, n, none⟩ u1).setCell ⟨MT, n, none⟩ u2).setCell ⟨MN, n, none⟩ u3).ownsRow 0 4 1 (.slice (some ⟨MT, 0, none⟩) K K) K (mts.set n u2) ∧
    (((w1.setCell ⟨MV, n, none⟩ u1).setCell ⟨MT, n, none⟩ u2).setCell ⟨MN, n, none⟩ u3).ownsRow 0 24 1 (.slice (some ⟨MN, 0, none⟩) K K) K (mns.set n u3) ∧ Chg (fun k => k = MV ∨ k = MT ∨ k = MN) w1 (((w1.setCell ⟨MV, n, none⟩ u1).setCell ⟨MT, n, none⟩ u2).setCell ⟨MN, n, none⟩ u3) := by
  have n1 : MV ≠ MT := fun e => row_ne hmv hmt (by decide) (k := MV) rfl (by rw [e]; rfl)
  have n2 : MV ≠ MN := fun e => row_ne hmv hmn (by decide) (k := MV) rfl (by rw [e]; rfl)
  have n3 : MT ≠ MN := fun e => row_ne hmt hmn (by decide) (k := MT) rfl (by rw [e]; rfl)
  have c1 : Chg (fun k => k = MV) w1 (w1.setCell ⟨MV, n, none⟩ u1) := (Chg.refl (fun k => k = MV) w1).setCell ⟨MV, n, none⟩ _ (fun _ => rfl)
  have c2 : Chg (fun k => k = MT) (w1.setCell ⟨MV, n, none⟩ u1) ((w1.setCell ⟨MV, n, none⟩ u1).setCell ⟨MT, n, none⟩ u2) := (Chg.refl (fun k => k = MT) _).setCell ⟨MT, n, none⟩ _ (fun _ => rfl)
  have c3 : Chg (fun k => k = MN) ((w1.setCell ⟨MV, n, none⟩ u1).setCell ⟨MT, n, none⟩ u2) (((w1.setCell ⟨MV, n, none⟩ u1).setCell ⟨MT, n, none⟩ u2).setCell ⟨MN, n, none⟩ u3) := (Chg.refl (fun k => k = MN) _).setCell ⟨MN, n, none⟩ _ (fun _ => rfl)
  have own : ∀ {b K c k : Nat} , (Value.slice (some ⟨b, 0, none⟩) K c).ownBlock = some k → k = b := fun hk => by simp [Value.ownBlock] at hk; exact hk.symm
  refine ⟨c3.row (c2.row (row_set hmv n u1) (fun k hk e => n1 (by rw [← own hk, e]))) (fun k hk e => n2 (by rw [← own hk, e])), c3.row (row_set (c1.row hmt (fun k hk e => n1 (by rw [← own hk, e]))) n u2) (fun k hk e => n3 (by rw [← own hk, e])), row_set (c2.row (c1.row hmn (fun k hk e => n2 (by rw [← own hk, e]))) (fun k hk e => n3 (by rw [← own hk, e]))) n u3, ?_⟩
  exact ((c1.mono (fun _ _ e => .inl e)).trans (c2.mono (fun _ _ e => .inr (.inl e)))).trans (c3.mono (fun _ _ e => .inr (.inr e)))
/-- What the three rows' blocks are not. -/
theorem rows3 {w1 : World} {K : Nat} (hmv : w1.ownsRow 0 71 1 (.slice (some ⟨MV, 0, none⟩) K K) K mvs) (hmt : w1.ownsRow 0 4 1 (.slice (some ⟨MT, 0, none⟩) K K) K mts) (hmn : w1.ownsRow 0 24 1 (.slice (some ⟨MN, 0, none⟩) K K) K mns) {k : Nat} (hk : k = MV ∨ k = MT ∨ k = MN) :
    ∃ C t, w1.heap[k]? = some (.cells C t (0, 0)) ∧ (t = 71 ∨ t = 4 ∨ t = 24) := by
  obtain ⟨C1, h1⟩ := row_block hmv
  obtain ⟨C2, h2⟩ := row_block hmt
  obtain ⟨C3, h3⟩ := row_block hmn
  rcases hk with rfl | rfl | rfl
  · exact ⟨C1, _, h1, .inl rfl⟩
  · exact ⟨C2, _, h2, .inr (.inl rfl)⟩
  · exact ⟨C3, _, h3, .inr (.inr rfl)⟩
theorem cells_inj {w1 : World} {k : Nat} {C C' : Array Value} {t t' : TypeId} {fr fr' : Nat × Nat} (h : w1.heap[k]? = some (.cells C t fr)) (h' : w1.heap[k]? = some (.cells C' t' fr')) : t = t' := by
  rw [h] at h'
  injection h' with h'
  injection h' with _ e _
/-- Real stays where only the three rows turn. -/
theorem Real.rows {B : Nat} {st : St} {dm : Value} {K : Nat} (h : Real B S T ts sq KS dm VS hb g cap exv st wr) (hmv : wr.ownsRow 0 71 1 (.slice (some ⟨MV, 0, none⟩) K K) K mvs) (hmt : wr.ownsRow 0 4 1 (.slice (some ⟨MT, 0, none⟩) K K) K mts) (hmn : wr.ownsRow 0 24 1 (.slice (some ⟨MN, 0, none⟩) K K) K mns)
    (hc : Chg (fun k => k = MV ∨ k = MT ∨ k = MN) wr w') : Real B S T ts sq KS dm VS hb g cap exv st w' := by
  refine h.keep hc (fun k C t fr u e => ?_) (fun M hM u => ?_)
  · obtain ⟨C', t', e', ht⟩ := rows3 hmv hmt hmn u
    have et := cells_inj e e'
    rw [et]
    rcases ht with rfl | rfl | rfl
    · exact ⟨by decide, by decide, fun q => absurd q (by decide)⟩
    · exact ⟨by decide, by decide, fun q => absurd q (by decide)⟩
    · exact ⟨by decide, by decide, fun q => absurd q (by decide)⟩
  · obtain ⟨C', t', e', ht⟩ := rows3 hmv hmt hmn u
    exact map_type h.drops hM e' rfl
theorem L2.rows {K : Nat} (h : L2 w DL I kv lv m KS LS wr) (hmv : wr.ownsRow 0 71 1 (.slice (some ⟨MV, 0, none⟩) K K) K mvs) (hmt : wr.ownsRow 0 4 1 (.slice (some ⟨MT, 0, none⟩) K K) K mts) (hmn : wr.ownsRow 0 24 1 (.slice (some ⟨MN, 0, none⟩) K K) K mns)
    (hN : w.heap.size ≤ MV ∧ w.heap.size ≤ MT ∧ w.heap.size ≤ MN) (hc : Chg (fun k => k = MV ∨ k = MT ∨ k = MN) wr w') : L2 w DL I kv lv m KS LS w' := by
  refine h.keep hc (fun k u => by omega) (fun u => ?_) (fun k hk u => ?_) (fun k hk u => ?_)
  · obtain ⟨C', t', e', ht⟩ := rows3 hmv hmt hmn u
    obtain ⟨es, c, hm⟩ := h.map.isMap
    rw [hm] at e'; cases e'
  · obtain ⟨C', t', e', ht⟩ := rows3 hmv hmt hmn u
    exact XRow.type h.keys e' (by rcases ht with rfl | rfl | rfl <;> decide) hk
  · obtain ⟨C', t', e', ht⟩ := rows3 hmv hmt hmn u
    exact XRow.type h.last e' (by rcases ht with rfl | rfl | rfl <;> decide) hk
/-- One more key in the copies. -/
theorem L3.copy (h : L3 w DL I kv lv m KS LS T M MV MT MN ts sq ds exv ex S VS hb g cap mvs mts mns nr n wr) (hn : n < KS.length) {x : Hist} (hh : (hists DL LS)[n]? = some (some x)) (h8 : x.vs.length ≤ 8) {w1 : World} (hc : Chg (fun _ => False) wr w1) {mg : Nat}
    (hr : VRow w1 (.slice (some ⟨mg, 0, none⟩) x.vs.length x.vs.length) x.vs) (hmg : wr.heap.size ≤ mg) :
    L3 w DL I kv lv m KS LS T M MV MT MN ts sq ds exv ex S VS hb g cap (mvs.set n (.slice (some ⟨mg, 0, none⟩) x.vs.length x.vs.length)) (mts.set n (.bool x.tr)) (mns.set n (.int .u64 x.nt)) nr (n + 1) (((w1.setCell ⟨MV, n, none⟩ (.slice (some ⟨mg, 0, none⟩) x.vs.length x.vs.length)).setCell ⟨MT, n, none⟩ (.bool x.tr)).setCell ⟨MN, n, none⟩ (.int .u64 x.nt)) := by
  have h1 := h.same hc
  obtain ⟨t1, t2, t3, t4⟩ := three h1.model.mv h1.model.mt h1.model.mn n (.slice (some ⟨mg, 0, none⟩) x.vs.length x.vs.length) (.bool x.tr) (.int .u64 x.nt)
  generalize ((w1.setCell ⟨MV, n, none⟩ (.slice (some ⟨mg, 0, none⟩) x.vs.length x.vs.length)).setCell ⟨MT, n, none⟩ (.bool x.tr)).setCell ⟨MN, n, none⟩ (.int .u64 x.nt) = W at t1 t2 t3 t4 ⊢
  have l1 : mvs.length = KS.length := by have := h1.model.mv.1; omega
  have l2 : mts.length = KS.length := by have := h1.model.mt.1; omega
  have l3 : mns.length = KS.length := by have := h1.model.mn.1; omega
  have ne3 : ∀ {k : Nat} {C : Array Value}, w1.heap[k]? = some (.cells C 82 (0, 0)) → ¬ (k = MV ∨ k = MT ∨ k = MN) := fun e u => by
    obtain ⟨C', t', e', ht⟩ := rows3 h1.model.mv h1.model.mt h1.model.mn u
    have := cells_inj e e'
    rcases ht with rfl | rfl | rfl <;> exact absurd this (by decide)
  refine ⟨h1.l2.rows h1.model.mv h1.model.mt h1.model.mn h1.mN.2 t4, fun B => (h1.real B).rows h1.model.mv h1.model.mt h1.model.mn t4, ⟨t1, t2, t3, fun j y hj hy => ?_⟩, h.lo, fun k hk => Nat.lt_of_lt_of_le (h1.hi k hk) t4.size, h.sI, h.sK, h.sL, h.sM, h.mN, h.neI, h.vlen⟩
  by_cases e : j = n
  · subst e
    rw [hh] at hy
    cases hy
    obtain ⟨C, hC⟩ := row_block hr
    have eg := t4.block mg (Array.getElem?_eq_some_iff.1 hC).1 (ne3 hC)
    have hr' : VRow W (.slice (some ⟨mg, 0, none⟩) x.vs.length x.vs.length) x.vs := t4.row hr (fun k hk u => by simp [Value.ownBlock] at hk; subst hk; exact ne3 hC u)
    exact ⟨mg, 0, x.vs.length, C, by simp [l1, hn], by simp [l2, hn], by simp [l3, hn], fun k => by have := h.hi mg k; omega, eg.trans hC, fun i v hi => by rw [Nat.zero_add]; exact VRow.at hr' hi, h8, fun _ => ⟨rfl, rfl, hr'⟩⟩
  · obtain ⟨g0, o, cp, C, r1, r2, r3, r4, r5, r6, r7, r8⟩ := h1.model.each j y (by omega) hy
    have e' : n ≠ j := fun q => e q.symm
    have eg := t4.block g0 (Array.getElem?_eq_some_iff.1 r5).1 (ne3 r5)
    exact ⟨g0, o, cp, C, by rw [List.getElem?_set_ne e']; exact r1, by rw [List.getElem?_set_ne e']; exact r2, by rw [List.getElem?_set_ne e']; exact r3, r4, eg.trans r5, fun i v hi => (r6 i v hi).same eg, r7, fun hd => ⟨(r8 hd).1, (r8 hd).2.1, t4.row (r8 hd).2.2 (fun k hk u => by simp [Value.ownBlock] at hk; subst hk; exact ne3 r5 u)⟩⟩
end
end Go.Proofs.Ybulkexohm
