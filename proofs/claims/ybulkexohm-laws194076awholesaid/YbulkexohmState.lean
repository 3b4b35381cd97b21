/-
  The plain state that both the law's own reckoning and undoDrops turn, and how the Tables bear it.
-/
import Derived.Test.YbulkexohmHold
import Derived.Test.YbulkexohmSmall
namespace Go.Proofs.Ybulkexohm
open Go.RowKit Go.Maps
set_option linter.unusedVariables false

def find (KS : List ByteArray) (s : ByteArray) : Option Nat := KS.findIdx? (fun k => decide (k = s))
theorem find_some {KS : List ByteArray} {s : ByteArray} {j : Nat} (h : find KS s = some j) : KS[j]? = some s := by
  obtain ⟨h1, h2, _⟩ := List.findIdx?_eq_some_iff_getElem.1 h
  rw [List.getElem?_eq_getElem h1, of_decide_eq_true h2]
theorem find_none {KS : List ByteArray} {s : ByteArray} (h : find KS s = none) : s ∉ KS := fun hm => by
  have := List.findIdx?_eq_none_iff.1 h s hm
  simp at this

/-- The newest version, where it is a drop. -/
def Hist.dropped (h : Hist) : Option Ver := match h.vs.getLast? with
  | some v => if v.dr then some v else none
  | none => none
structure St where
  hs : List (Option Hist)
  ds : Int
  ex : List Exc
/-- Which history a name turns, and by which version. -/
def St.at (KS : List ByteArray) (st : St) (s : ByteArray) : Option (Nat × Hist × Ver) := match find KS s with
  | none => none
  | some j => match st.hs[j]? with
    | some (some h) => match h.dropped with
      | some v => some (j, h, v)
      | none => none
    | _ => none
def St.step (ts sq : Int) (KS : List ByteArray) (st : St) (s : ByteArray) : St := match st.at KS s with
  | none => st
  | some (j, h, v) => ⟨st.hs.set j (some (h.push ⟨ts, sq, v.sc, v.tb, false⟩)), max st.ds sq, st.ex ++ [⟨s, ⟨#[]⟩, sq, true⟩]⟩
theorem at_some {KS : List ByteArray} {st : St} {s : ByteArray} {j : Nat} {h : Hist} {v : Ver} (e : st.at KS s = some (j, h, v)) : KS[j]? = some s ∧ st.hs[j]? = some (some h) ∧ h.vs.getLast? = some v ∧ v.dr = true := by
  unfold St.at at e
  split at e
  · cases e
  · rename_i j' hj
    split at e
    · rename_i h' hh
      split at e
      · rename_i v' hv
        simp only [Option.some.injEq, Prod.mk.injEq] at e
        obtain ⟨rfl, rfl, rfl⟩ := e
        refine ⟨find_some hj, hh, ?_⟩
        unfold Hist.dropped at hv
        split at hv
        · rename_i u hu
          split at hv
          · rename_i hd
            cases hv
            exact ⟨hu, hd⟩
          · cases hv
        · cases hv
      · cases e
    · cases e
theorem push_not (h : Hist) (v : Ver) (hv : v.dr = false) : (h.push v).dropped = none := by
  have e : (h.push v).vs.getLast? = some v := by unfold Hist.push; split <;> simp
  unfold Hist.dropped
  rw [e]
  simp [hv]
theorem push_length (h : Hist) (v : Ver) (h8 : h.vs.length ≤ 8) : (h.push v).vs.length ≤ 8 := by
  unfold Hist.push
  split
  · rename_i e; simp [e]
  · simp; omega

/-- The map of the drops: none where there is no key. -/
def Drops (w : World) (dm : Value) (KS : List ByteArray) (VS : List Value) : Prop := (dm = .map none ∧ KS = [] ∧ VS = []) ∨ ∃ M, dm = .map (some M) ∧ MapIs w M KS VS ∧ True
theorem Drops.same {w w' : World} {dm : Value} {KS : List ByteArray} {VS : List Value} (h : Drops w dm KS VS) (e : ∀ M, dm = .map (some M) → w'.heap[M]? = w.heap[M]?) : Drops w' dm KS VS := by
  rcases h with h | ⟨M, rfl, h, hn⟩
  · exact .inl h
  · exact .inr ⟨M, rfl, h.same (e M rfl), hn⟩
set_option maxRecDepth 100000 in
theorem Drops.look (w : World) {dm : Value} {KS : List ByteArray} {VS : List Value} (h : Drops w dm KS VS) {s : ByteArray} (hs : s.size ≤ maxLen) :
    (find KS s = none → (Instr.lookup 57 dm (.string s) false).run Yba.prog w = .ok (.pointer none) w) ∧ (∀ j v, find KS s = some j → VS[j]? = some v → (Instr.lookup 57 dm (.string s) false).run Yba.prog w = .ok v w) := by
  rcases h with ⟨rfl, rfl, rfl⟩ | ⟨M, rfl, h, hn⟩
  · refine ⟨fun _ => ?_, fun j v hj => ?_⟩
    · exact Maps.look_nil (P := Yba.prog) (t := 57) (e := 70) (z := .pointer none) false keyed9 Yba.underlying57 rfl (WideMaps.keyOf_string_mk Yba.underlying9 hs)
    · simp [find] at hj
  · exact ⟨fun hf => (h.look_out (t := 57) (e := 70) (z := .pointer none) Yba.underlying57 rfl rfl hs (find_none hf)).2, fun j v hj hv => (h.look_in (t := 57) (e := 70) (z := .pointer none) Yba.underlying57 rfl rfl hs (find_some hj) hv).2⟩

/-- The Tables in block 'T' bear 'st'; each block of theirs is one of 'S', or lies at 'B' or behind it. -/
structure Real (B : Nat) (S : Nat → Prop) (T : Nat) (ts sq : Int) (KS : List ByteArray) (dm : Value) (VS : List Value) (hb g cap : Nat → Nat) (exv : Value) (st : St) (w : World) : Prop where
  tab : Tab w T ts sq st.ds dm exv
  tabS : S T
  row : XRow w exv st.ex
  rowS : ∀ k, exv.ownBlock = some k → B ≤ k ∨ S k
  drops : Drops w dm KS VS
  len : st.hs.length = KS.length
  gone : ∀ j : Nat, st.hs[j]? = some none → VS[j]? = some (.pointer none)
  held : ∀ (j : Nat) (h : Hist), st.hs[j]? = some (some h) → VS[j]? = some (.pointer (some ⟨hb j, 0, none⟩)) ∧ HistIs w (hb j) (g j) (cap j) h ∧ h.vs.length ≤ 8 ∧ (h.dropped ≠ none → cap j = h.vs.length) ∧ S (hb j) ∧ (B ≤ g j ∨ S (g j))
  apart : ∀ (i j : Nat) (h k : Hist), st.hs[i]? = some (some h) → st.hs[j]? = some (some k) → (hb i = hb j ∨ g i = g j) → i = j
theorem map_type {w : World} {dm : Value} {KS : List ByteArray} {VS : List Value} {M b : Nat} {C : Array Value} {t : TypeId} {fr : Nat × Nat} (h : Drops w dm KS VS) (hd : dm = .map (some M)) (hb : w.heap[b]? = some (.cells C t fr)) : M ≠ b := fun e => by
  rcases h with ⟨rfl, _⟩ | ⟨M', rfl, hm, _⟩
  · cases hd
  · cases hd
    obtain ⟨es, c, hm⟩ := hm.isMap
    rw [e, hb] at hm
    injection hm with hm
    cases hm
theorem Drops.lt {w : World} {dm : Value} {KS : List ByteArray} {VS : List Value} {M : Nat} (h : Drops w dm KS VS) (hd : dm = .map (some M)) : M < w.heap.size := by
  rcases h with ⟨rfl, _⟩ | ⟨M', rfl, hm, _⟩
  · cases hd
  · cases hd; exact hm.lt
section
variable {B : Nat} {S : Nat → Prop} {T : Nat} {ts sq : Int} {KS : List ByteArray} {dm : Value} {VS : List Value} {hb g cap : Nat → Nat} {exv : Value} {st : St} {w : World}
/-- Nothing of theirs turned. -/
theorem Real.keep (h : Real B S T ts sq KS dm VS hb g cap exv st w) {w' : World} {U : Nat → Prop} (hc : Chg U w w') (hU : ∀ k C t fr, U k → w.heap[k]? = some (.cells C t fr) → t ≠ 65 ∧ t ≠ 74 ∧ ((t = 82 ∨ t = 86) → ∀ k', (S k' ∨ B ≤ k') → k' ≠ k)) (hM : ∀ M, dm = .map (some M) → ¬ U M) : Real B S T ts sq KS dm VS hb g cap exv st w' := by
  obtain ⟨C, hT, hTr⟩ := id h.tab
  refine ⟨h.tab.same (hc.block T h.tab.lt (fun u => (hU T C 65 _ u hT).1 rfl)), h.tabS, hc.row h.row (fun k hk u => ?_), h.rowS, h.drops.same (fun M hM' => hc.block M (h.drops.lt hM') (hM M hM')), h.len, h.gone, fun j x hj => ?_, h.apart⟩
  · obtain ⟨k1, k2⟩ := h.row.lt k hk
    rcases h.row.2 with ⟨h0, _⟩ | ⟨g0, cap0, cur, h0, _, h1, _⟩
    · rw [h0] at hk; simp [Value.ownBlock] at hk
    · rw [h0] at hk
      simp [Value.ownBlock] at hk
      subst hk
      exact (hU g0 _ _ _ u h1).2.2 (.inr rfl) g0 ((h.rowS g0 (by rw [h0]; rfl)).symm) rfl
  · obtain ⟨r1, r2, r3, r4, r5, r6⟩ := h.held j x hj
    obtain ⟨D, hD⟩ := VRow.block r2.row
    have hat := r2.at_
    unfold HistAt at hat
    exact ⟨r1, r2.same (hc.block _ r2.lt.1 (fun u => (hU _ _ _ _ u hat).2.1 rfl)) (hc.block _ r2.lt.2 (fun u => (hU _ _ _ _ u hD).2.2 (.inl rfl) _ r6.symm rfl)), r3, r4, r5, r6⟩
theorem Real.same (h : Real B S T ts sq KS dm VS hb g cap exv st w) {w' : World} (hc : Chg (fun _ => False) w w') : Real B S T ts sq KS dm VS hb g cap exv st w' := h.keep hc (fun k C t fr u => u.elim) (fun _ _ u => u)

/-- What 'newest' says of a name's history. -/
theorem Real.newest (h : Real B S T ts sq KS dm VS hb g cap exv st w) {s : ByteArray} (hs : s.size ≤ maxLen) :
    ∃ P, (Instr.lookup 57 dm (.string s) false).run Yba.prog w = .ok P w ∧ Calls Yba.prog 18 #[P] w fun e w' => ∃ v b, e = .returned (.tuple #[Ver.val v, .bool b]) ∧ (st.at KS s = none → (b && v.dr) = false) ∧ (∀ j x u, st.at KS s = some (j, x, u) → b = true ∧ v = u) ∧ Below w.heap.size w w' := by
  have hl := h.drops.look w hs
  have hnil : st.at KS s = none → (Instr.lookup 57 dm (.string s) false).run Yba.prog w = .ok (.pointer none) w → ∃ P, (Instr.lookup 57 dm (.string s) false).run Yba.prog w = .ok P w ∧ Calls Yba.prog 18 #[P] w fun e w' => ∃ v b, e = .returned (.tuple #[Ver.val v, .bool b]) ∧ (st.at KS s = none → (b && v.dr) = false) ∧ (∀ j x u, st.at KS s = some (j, x, u) → b = true ∧ v = u) ∧ Below w.heap.size w w' := fun ha hr => by
    refine ⟨_, hr, (newest_nil w).mono ?_⟩
    rintro e w' ⟨⟨v, rfl⟩, hb⟩
    exact ⟨v, false, rfl, fun _ => rfl, fun j x u hx => by rw [ha] at hx; (cases hx), hb⟩
  cases hf : find KS s with
  | none => exact hnil (by simp [St.at, hf]) (hl.1 hf)
  | some j =>
    have hjl : j < st.hs.length := by
      have := (List.getElem?_eq_some_iff.1 (find_some hf)).1
      rw [h.len]; exact this
    cases hh : st.hs[j]? with
    | none => rw [List.getElem?_eq_none_iff] at hh; omega
    | some o =>
      cases o with
      | none => exact hnil (by simp [St.at, hf, hh]) (hl.2 j _ hf (h.gone j hh))
      | some x =>
        obtain ⟨r1, r2, r3, r4, r5, r6⟩ := h.held j x hh
        refine ⟨_, hl.2 j _ hf r1, ?_⟩
        obtain ⟨c0, _⟩ := r2.at_.cells
        cases hv : x.vs.getLast? with
        | none =>
          have he : x.vs = [] := List.getLast?_eq_none_iff.1 hv
          have ha : st.at KS s = none := by simp [St.at, hf, hh, Hist.dropped, hv]
          rw [he] at c0
          refine (newest_empty (hb j) _ (cap j) w r2.lt.1 c0).mono ?_
          rintro e w' ⟨⟨v, rfl⟩, hb⟩
          exact ⟨v, false, rfl, fun _ => rfl, fun j x u hx => by rw [ha] at hx; (cases hx), hb⟩
        | some v =>
          have hne : x.vs ≠ [] := fun e => by rw [e] at hv; cases hv
          have hpos : 0 < x.vs.length := List.length_pos_iff.2 hne
          obtain ⟨n, hn⟩ : ∃ n, x.vs.length = n + 1 := ⟨x.vs.length - 1, by omega⟩
          have hvn : x.vs[n]? = some v := by rw [← hv, List.getLast?_eq_getElem?, hn]; rfl
          have hat := VRow.at r2.row hvn
          rw [hn] at c0
          refine (newest_some (hb j) (g j) n (cap j) v w (by omega) r2.lt.1 r2.lt.2 c0 hat).mono ?_
          rintro e w' ⟨rfl, hb⟩
          refine ⟨v, true, rfl, fun ha => ?_, fun j' x' u hx => ?_, hb⟩
          · cases hd : v.dr with
            | false => rfl
            | true => simp [St.at, hf, hh, Hist.dropped, hv, hd] at ha
          · obtain ⟨_, q2, q3, _⟩ := at_some hx
            have : st.at KS s = some (j', x', u) := hx
            have ej : j' = j := by
              unfold St.at at hx
              rw [hf] at hx
              simp only [hh] at hx
              split at hx
              · simp at hx; exact hx.1.symm
              · cases hx
            subst ej
            rw [hh] at q2
            cases q2
            rw [hv] at q3
            cases q3
            exact ⟨rfl, rfl⟩
/-- Behind holdDrop. -/
theorem Real.hold (h : Real B S T ts sq KS dm VS hb g cap exv st w) (hB : B ≤ w.heap.size) {s : ByteArray} {j : Nat} {x : Hist} {v : Ver} (ha : st.at KS s = some (j, x, v)) {w' : World} {exv' : Value} {g' cap' : Nat}
    (q1 : Tab w' T ts sq (max st.ds sq) dm exv') (q2 : XRow w' exv' (st.ex ++ [⟨s, ⟨#[]⟩, sq, true⟩])) (q3 : HistIs w' (hb j) g' cap' (x.push ⟨ts, sq, v.sc, v.tb, false⟩)) (q4 : w.heap.size ≤ g' ∨ g' = g j)
    (q5 : ∀ k, exv'.ownBlock = some k → w.heap.size ≤ k ∨ exv.ownBlock = some k) (q6 : Chg (fun k => k = T ∨ k = hb j ∨ k = g j ∨ exv.ownBlock = some k) w w') :
    Real B S T ts sq KS dm VS hb (fun i => if i = j then g' else g i) (fun i => if i = j then cap' else cap i) exv' (st.step ts sq KS s) w' ∧ Chg (fun k => B ≤ k ∨ S k) w w' := by
  obtain ⟨a1, a2, a3, a4⟩ := at_some ha
  have es : st.step ts sq KS s = ⟨st.hs.set j (some (x.push ⟨ts, sq, v.sc, v.tb, false⟩)), max st.ds sq, st.ex ++ [⟨s, ⟨#[]⟩, sq, true⟩]⟩ := by unfold St.step; rw [ha]
  rw [es]
  have hjl := (List.getElem?_eq_some_iff.1 a2).1
  obtain ⟨p1, p2, p3, p4, p5, p6⟩ := h.held j x a2
  obtain ⟨CT, hCT, _⟩ := id h.tab
  obtain ⟨Cj, hCj⟩ := VRow.block p2.row
  have hatj := p2.at_
  unfold HistAt at hatj
  have key : ∀ i, i ≠ j → ∀ y, st.hs[i]? = some (some y) → HistIs w' (hb i) (g i) (cap i) y := fun i hij y hy => by
    obtain ⟨r1, r2, r3, r4, r5, r6⟩ := h.held i y hy
    obtain ⟨Ci, hCi⟩ := VRow.block r2.row
    have hati := r2.at_
    unfold HistAt at hati
    have n1 : hb i ≠ hb j := fun e => hij (h.apart i j y x hy a2 (.inl e))
    have n2 : g i ≠ g j := fun e => hij (h.apart i j y x hy a2 (.inr e))
    have n3 := h.tab.type hati (by decide)
    have n4 := h.tab.type hCi (by decide)
    have n5 := XRow.type h.row hati (by decide)
    have n6 := XRow.type h.row hCi (by decide)
    have n7 : hb i ≠ g j := fun e => by rw [e, hCj] at hati; injection hati with hati; injection hati with _ e2 _; exact absurd e2 (by decide)
    have n8 : g i ≠ hb j := fun e => by rw [e, hatj] at hCi; injection hCi with hCi; injection hCi with _ e2 _; exact absurd e2 (by decide)
    exact r2.same (q6.block _ r2.lt.1 (fun e => e.elim (fun e => n3 e.symm) (fun e => e.elim n1 (fun e => e.elim n7 n5)))) (q6.block _ r2.lt.2 (fun e => e.elim (fun e => n4 e.symm) (fun e => e.elim n8 (fun e => e.elim n2 n6))))
  have gx : ∀ k, exv'.ownBlock = some k → B ≤ k ∨ S k := fun k hk => (q5 k hk).elim (fun e => .inl (Nat.le_trans hB e)) (h.rowS k)
  refine ⟨⟨q1, h.tabS, q2, gx, h.drops.same (fun M hM => q6.block M (h.drops.lt hM) ?_), by simpa using h.len, fun i hi => ?_, fun i y hi => ?_, fun i k y z hi hk e => ?_⟩, q6.mono (fun k _ e => ?_)⟩
  · have m1 := map_type h.drops hM hCT
    have m2 := map_type h.drops hM hatj
    have m3 := map_type h.drops hM hCj
    rintro (e | e | e | e)
    · exact m1 e
    · exact m2 e
    · exact m3 e
    · rcases h.row.2 with ⟨h0, _⟩ | ⟨g0, cap0, cur, h0, _, h1, _⟩
      · rw [h0] at e; simp [Value.ownBlock] at e
      · rw [h0] at e
        simp [Value.ownBlock] at e
        exact map_type h.drops hM h1 e.symm
  · rw [List.getElem?_set] at hi
    by_cases e : j = i
    · rw [if_pos e, if_pos hjl] at hi; cases hi
    · rw [if_neg e] at hi; exact h.gone i hi
  · rw [List.getElem?_set] at hi
    by_cases e : j = i
    · subst e
      rw [if_pos rfl, if_pos hjl] at hi
      simp only [Option.some.injEq] at hi
      subst hi
      simp only [↓reduceIte]
      refine ⟨p1, q3, push_length _ _ p3, fun hn => absurd (push_not x _ rfl) hn, p5, ?_⟩
      rcases q4 with e | e
      · exact .inl (Nat.le_trans hB e)
      · rw [e]; exact p6
    · rw [if_neg e] at hi
      obtain ⟨r1, r2, r3, r4, r5, r6⟩ := h.held i y hi
      have e' : ¬ i = j := fun e2 => e e2.symm
      simp only [if_neg e']
      exact ⟨r1, key i e' y hi, r3, r4, r5, r6⟩
  · have low : ∀ i y, st.hs[i]? = some (some y) → hb i < w.heap.size ∧ g i < w.heap.size := fun i y hy => (h.held i y hy).2.1.lt
    rw [List.getElem?_set] at hi hk
    by_cases ei : j = i
    · by_cases ek : j = k
      · omega
      · subst ei
        rw [if_neg ek] at hk
        have ek' : ¬ k = j := fun e2 => ek e2.symm
        rw [if_pos rfl, if_neg ek'] at e
        rcases e with e | e
        · exact h.apart j k x z a2 hk (.inl e)
        · rcases q4 with q | q
          · have := (low k z hk).2; omega
          · exact h.apart j k x z a2 hk (.inr (by omega))
    · rw [if_neg ei] at hi
      have ei' : ¬ i = j := fun e2 => ei e2.symm
      by_cases ek : j = k
      · subst ek
        rw [if_pos rfl, if_neg ei'] at e
        rcases e with e | e
        · exact h.apart i j y x hi a2 (.inl e)
        · rcases q4 with q | q
          · have := (low i y hi).2; omega
          · exact h.apart i j y x hi a2 (.inr (by omega))
      · rw [if_neg ek] at hk
        have ek' : ¬ k = j := fun e2 => ek e2.symm
        simp only [if_neg ek', if_neg ei'] at e
        exact h.apart i k y z hi hk e
  · rcases e with rfl | rfl | rfl | e
    · exact .inr h.tabS
    · exact .inr p5
    · exact p6
    · exact h.rowS k e
end
end Go.Proofs.Ybulkexohm
