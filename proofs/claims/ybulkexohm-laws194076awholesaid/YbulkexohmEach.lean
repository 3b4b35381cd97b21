/-
  What the fifth loop reads.
-/
import Derived.Test.YbulkexohmCut
import Derived.Test.YbulkexohmPush
namespace Go.Proofs.Ybulkexohm
open Go.RowKit Go.Maps
set_option linter.unusedVariables false
theorem row_base {w : World} {B e size n : Nat} {v : Value} {xs : List Value} (h : w.ownsRow B e size v n xs) : w.ownsRow 0 e size v n xs :=
  ⟨h.1, or_map h.2 id (fun ⟨g, cap, cur, h1, h2, h3⟩ => ⟨g, cap, cur, h1, Nat.zero_le _, h3⟩)⟩
theorem row_cap {w : World} {B e size g n cap : Nat} {xs : List Value} (h : w.ownsRow B e size (.slice (some ⟨g, 0, none⟩) n cap) n xs) : n ≤ cap := by
  rcases h.2 with ⟨h0, _⟩ | ⟨g', cap', cur, hv, _, _, hc, _⟩
  · cases h0
  · cases hv; exact hc
theorem new_at_is (w : World) (cs : List Value) (t : TypeId) (H : Nat) (hH : w.heap.size = H) : ∀ j u, cs[j]? = some u → (w.alloc (.cells cs.toArray t)).cell? ((⟨H, 0, none⟩ : Addr).add j) = some u := by
  subst hH
  exact new_at w cs t
section
variable {w : World} {DL : List DIn} {I : Nat} {kv lv : Value} {m : Nat} {KS : List ByteArray} {LS : List Nat} {T MV MT MN : Nat} {ts sq ds : Int} {dm exv : Value} {ex : List Exc} {S : Nat → Prop} {VS : List Value} {hb g cap : Nat → Nat} {mvs mts mns : List Value} {wr w' w1 : World} {SB : Nat} {SS : List ByteArray} {cv ev : Value} {st : St}
theorem L5.lts (h : L5 w DL I kv lv m KS LS T dm MV MT MN ts sq ds exv ex S VS hb g cap SB SS cv ev mvs mts mns st wr) : MV < wr.heap.size ∧ MT < wr.heap.size ∧ MN < wr.heap.size := ⟨(h.model.mv.lt MV rfl).2, (h.model.mt.lt MT rfl).2, (h.model.mn.lt MN rfl).2⟩
theorem L5.each (h : L5 w DL I kv lv m KS LS T dm MV MT MN ts sq ds exv ex S VS hb g cap SB SS cv ev mvs mts mns st wr) {j : Nat} {x : Hist} (hx : st.hs[j]? = some (some x)) (hj : j < KS.length) :
    ∃ g0 o0 cp0, wr.cell? ⟨MV, j, none⟩ = some (.slice (some ⟨g0, o0, none⟩) x.vs.length cp0) ∧ wr.cell? ⟨MT, j, none⟩ = some (.bool x.tr) ∧ wr.cell? ⟨MN, j, none⟩ = some (.int .u64 x.nt) ∧ g0 < wr.heap.size ∧ (∀ i v, x.vs[i]? = some v → VerAt wr g0 (o0 + i * 10) v) ∧ x.vs.length ≤ 8 ∧
      (x.dropped ≠ none → o0 = 0 ∧ cp0 = x.vs.length ∧ VRow wr (.slice (some ⟨g0, 0, none⟩) x.vs.length x.vs.length) x.vs) := by
  obtain ⟨g0, o0, c0, C0, q1, q2, q3, q4, q5, q6, q7, q8⟩ := h.model.each j x hj hx
  exact ⟨g0, o0, c0, by rw [h.model.mv.cellAt j (by omega)]; exact q1, by rw [h.model.mt.cellAt j (by omega)]; exact q2, by rw [h.model.mn.cellAt j (by omega)]; exact q3, (Array.getElem?_eq_some_iff.1 q5).1, q6, q7, q8⟩
/-- The cells of the three rows, a block of versions newer. -/
theorem L5.rows_at (h : L5 w DL I kv lv m KS LS T dm MV MT MN ts sq ds exv ex S VS hb g cap SB SS cv ev mvs mts mns st wr) {j : Nat} {x : Hist} (hx : st.hs[j]? = some (some x)) (hj : j < KS.length) (hc : Chg (fun _ => False) wr w1) :
    (∃ u, w1.cell? ⟨MV, j, none⟩ = some u) ∧ (∃ u, w1.cell? ⟨MT, j, none⟩ = some u) ∧ w1.cell? ⟨MN, j, none⟩ = some (.int .u64 x.nt) ∧ (∀ i, w1.frozen? ⟨MV, i, none⟩ = false) ∧ (∀ i, w1.frozen? ⟨MT, i, none⟩ = false) ∧ (∀ i, w1.frozen? ⟨MN, i, none⟩ = false) ∧ (MV < w1.heap.size ∧ MT < w1.heap.size ∧ MN < w1.heap.size) ∧ (MV ≠ MT ∧ MV ≠ MN ∧ MT ≠ MN ∧ MT ≠ MV ∧ MN ≠ MV ∧ MN ≠ MT) := by
  have h1 := h.same hc
  obtain ⟨g0, o0, c0, r1, r2, r3, _⟩ := h1.each hx hj
  exact ⟨⟨_, r1⟩, ⟨_, r2⟩, r3, fun i => h1.model.mv.frozenAt i, fun i => h1.model.mt.frozenAt i, fun i => h1.model.mn.frozenAt i, h1.lts, rows_apart h1.model.mv h1.model.mt h1.model.mn⟩
end
theorem last_at {x : Hist} {v : Ver} {p : Nat} (h : x.vs.getLast? = some v) (hp : x.vs.length = p + 1) : x.vs[p]? = some v := by
  rw [List.getLast?_eq_getElem?, hp] at h
  exact h
theorem dropped_some {x : Hist} {v : Ver} (h : x.vs.getLast? = some v) (hd : v.dr = true) : x.dropped = some v := by
  unfold Hist.dropped; rw [h]; simp [hd]
theorem dropped_none {x : Hist} {v : Ver} (h : x.vs.getLast? = some v) (hd : v.dr = false) : x.dropped = none := by
  unfold Hist.dropped; rw [h]; simp [hd]
theorem dropped_nil {x : Hist} (h : x.vs = []) : x.dropped = none := by
  unfold Hist.dropped; rw [h]; rfl
end Go.Proofs.Ybulkexohm
