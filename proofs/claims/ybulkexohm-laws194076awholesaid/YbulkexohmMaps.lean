/-
  The two maps of this law, each by one word: the keys in the order of their coming, and what lies at each.
-/
import Derived.Test.YbulkexohmBase
import Derived.Maps.OwnSet
import Derived.WalkSpells
namespace Go.Proofs.Ybulkexohm
open Go.RowKit Go.Maps

/-- How an element reads: an int by itself, a pointer by its block. -/
def elemOf : Value → Option (DataW Unit × List MemPlace)
  | .int .i64 n => some (.lit (.int .i64 n), [])
  | .pointer none => some (.nil, [])
  | .pointer (some ⟨b, 0, none⟩) => some (.agg [.lit (.int .i64 b)], [])
  | _ => none
theorem elem_inj {v v' : Value} {d : DataW Unit} {ps ps' : List MemPlace} (h : elemOf v = some (d, ps)) (h' : elemOf v' = some (d, ps')) : v = v' := by
  have key : ∀ {v : Value} {ps : List MemPlace}, elemOf v = some (d, ps) → (∃ n, v = .int .i64 n ∧ d = .lit (.int .i64 n)) ∨ (v = .pointer none ∧ d = .nil) ∨ ∃ b : Nat, v = .pointer (some ⟨b, 0, none⟩) ∧ d = .agg [.lit (.int .i64 b)] := by
    intro v ps h
    unfold elemOf at h
    split at h
    · simp only [Option.some.injEq, Prod.mk.injEq] at h; exact .inl ⟨_, rfl, h.1.symm⟩
    · simp only [Option.some.injEq, Prod.mk.injEq] at h; exact .inr (.inl ⟨rfl, h.1.symm⟩)
    · simp only [Option.some.injEq, Prod.mk.injEq] at h; exact .inr (.inr ⟨_, rfl, h.1.symm⟩)
    · cases h
  rcases key h with ⟨n, rfl, rfl⟩ | ⟨rfl, rfl⟩ | ⟨b, rfl, rfl⟩ <;> rcases key h' with ⟨n', rfl, e⟩ | ⟨rfl, e⟩ | ⟨b', rfl, e⟩ <;> simp at e ⊢ <;> omega

/-- Block 'M' of 'w' is a map keyed by strings: the keys KS, no two alike, and at each the value of VS. -/
def MapIs (w : World) (M : Nat) (KS : List ByteArray) (VS : List Value) : Prop :=
  ∃ D, w.ownsMap Yba.prog 9 elemOf M KS.length D ∧ Maps.size D = KS.length ∧ VS.length = KS.length ∧
    (∀ (j : Nat) (s : ByteArray) (v : Value), KS[j]? = some s → VS[j]? = some v → Maps.has D (.string s.data.toList) = true ∧ ∃ d, elemOf v = some (d, []) ∧ ∀ z, D.atKey (.string s.data.toList) z = d) ∧
    (∀ s : ByteArray, s ∉ KS → Maps.has D (.string s.data.toList) = false)
theorem keyed9 : Keyed Yba.prog 9 := string_keyed Yba.underlying9
theorem MapIs.made (w : World) : MapIs (w.alloc (.map #[] 0)) w.heap.size [] [] :=
  ⟨.map [], World.ownsMap_made w _ _ _, rfl, rfl, fun j s v h => by simp at h, fun s _ => rfl⟩
theorem MapIs.lt {w : World} {M : Nat} {KS : List ByteArray} {VS : List Value} (h : MapIs w M KS VS) : M < w.heap.size := by
  obtain ⟨D, h1, _⟩ := h; exact h1.lt
theorem MapIs.isMap {w : World} {M : Nat} {KS : List ByteArray} {VS : List Value} (h : MapIs w M KS VS) : ∃ es clock, w.heap[M]? = some (.map es clock) := by
  obtain ⟨D, ⟨es, clock, hb, _⟩, _⟩ := h; exact ⟨es, clock, hb⟩
theorem MapIs.same {w w' : World} {M : Nat} {KS : List ByteArray} {VS : List Value} (h : MapIs w M KS VS) (e : w'.heap[M]? = w.heap[M]?) : MapIs w' M KS VS := by
  obtain ⟨D, ⟨es, clock, hb, r⟩, r2⟩ := h
  exact ⟨D, ⟨es, clock, e.trans hb, r⟩, r2⟩
theorem bytes_inj {s t : ByteArray} (h : s ≠ t) : (Lit.string s.data.toList) ≠ .string t.data.toList := fun e => h (by
  injection e with e
  exact ByteArray.ext (Array.toList_inj.1 e))

section
variable {w : World} {M : Nat} {KS : List ByteArray} {VS : List Value} {t e : TypeId} {z : Value}
/-- 'm[s]' and 'v, ok := m[s]' where 's' is there. -/
theorem MapIs.look_in (h : MapIs w M KS VS) (ht : Yba.prog.underlying t = some (.map 9 e)) (hz : (zeroValue e).run Yba.prog w = .ok z w) {zd : DataW Unit} {zp : List MemPlace} (hzd : elemOf z = some (zd, zp))
    {s : ByteArray} (hs : s.size ≤ maxLen) {j : Nat} {v : Value} (hj : KS[j]? = some s) (hv : VS[j]? = some v) :
    (Instr.lookup t (.map (some M)) (.string s) true).run Yba.prog w = .ok (.tuple #[v, .bool true]) w ∧ (Instr.lookup t (.map (some M)) (.string s) false).run Yba.prog w = .ok v w := by
  obtain ⟨D, h1, h2, h3, h4, h5⟩ := h
  obtain ⟨k1, d, k2, k3⟩ := h4 j s v hj hv
  have hk := WideMaps.keyOf_string_mk Yba.underlying9 hs
  obtain ⟨x, ps, r1, r2⟩ := h1.look_ok keyed9 ht hz hzd hk
  obtain ⟨y, qs, r3, r4⟩ := h1.lookup keyed9 ht hz hzd hk
  rw [k3] at r2 r4
  rw [elem_inj r2 k2, k1] at r1
  rw [elem_inj r4 k2] at r3
  exact ⟨r1, r3⟩
/-- .. where it is not. -/
theorem MapIs.look_out (h : MapIs w M KS VS) (ht : Yba.prog.underlying t = some (.map 9 e)) (hz : (zeroValue e).run Yba.prog w = .ok z w) {zd : DataW Unit} {zp : List MemPlace} (hzd : elemOf z = some (zd, zp))
    {s : ByteArray} (hs : s.size ≤ maxLen) (hn : s ∉ KS) :
    (Instr.lookup t (.map (some M)) (.string s) true).run Yba.prog w = .ok (.tuple #[z, .bool false]) w ∧ (Instr.lookup t (.map (some M)) (.string s) false).run Yba.prog w = .ok z w := by
  obtain ⟨D, h1, h2, h3, h4, h5⟩ := h
  have k1 := h5 s hn
  have hk := WideMaps.keyOf_string_mk Yba.underlying9 hs
  obtain ⟨x, ps, r1, r2⟩ := h1.look_ok keyed9 ht hz hzd hk
  obtain ⟨y, qs, r3, r4⟩ := h1.lookup keyed9 ht hz hzd hk
  rw [Maps.atKey_of_not_has k1] at r2 r4
  rw [elem_inj r2 hzd, k1] at r1
  rw [elem_inj r4 hzd] at r3
  exact ⟨r1, r3⟩
/-- 'len(m)'. -/
theorem MapIs.len (h : MapIs w M KS VS) (ht : Yba.prog.underlying t = some (.map 9 e)) (ty : TypeId) : (Builtin.len_ #[t] ty #[.map (some M)]).run Yba.prog w = .ok (.int .i64 KS.length) w := by
  obtain ⟨D, h1, h2, _⟩ := h
  rw [h1.len ht ty, h2]
/-- 'm[s] = v' at a new key. -/
theorem MapIs.put (h : MapIs w M KS VS) (ht : Yba.prog.underlying t = some (.map 9 e)) (hn : KS.length < maxLen) {s : ByteArray} (hs : s.size ≤ maxLen) (hnew : s ∉ KS) {v : Value} {d : DataW Unit} (hv : elemOf v = some (d, [])) :
    ∃ w', (Instr.mapUpdate t (.map (some M)) (.string s) v).run Yba.prog w = .ok () w' ∧ MapIs w' M (KS ++ [s]) (VS ++ [v]) ∧ w.grownBy w' (some M) := by
  obtain ⟨D, h1, h2, h3, h4, h5⟩ := h
  have hk := WideMaps.keyOf_string_mk Yba.underlying9 hs
  obtain ⟨w', r1, r2, r3⟩ := h1.update keyed9 ht hn hk hv
  have hm := h1.isMap
  have k0 := h5 s hnew
  refine ⟨w', r1, ⟨_, by simpa using r2, ?_, by simp [h3], fun j s' v' hj hv' => ?_, fun s' hs' => ?_⟩, r3⟩
  · rw [Maps.size_put (h1.tidy keyed9), k0, h2]; simp
  · rw [List.getElem?_append] at hj hv'
    by_cases hjl : j < KS.length
    · rw [if_pos hjl] at hj
      rw [if_pos (by omega)] at hv'
      have hne : s' ≠ s := fun e => hnew (e ▸ List.mem_of_getElem? hj)
      obtain ⟨a1, d', a2, a3⟩ := h4 j s' v' hj hv'
      refine ⟨by rw [Maps.has_put_other (bytes_inj hne)]; exact a1, d', a2, fun z => by rw [Maps.atKey_put_other (bytes_inj hne)]; exact a3 z⟩
    · rw [if_neg hjl] at hj
      rw [if_neg (by omega), h3] at hv'
      have e0 : j - KS.length = 0 := by
        rcases Nat.eq_zero_or_pos (j - KS.length) with h0 | h0
        · exact h0
        · rw [List.getElem?_eq_none (by simp; omega)] at hj; cases hj
      rw [e0] at hj hv'
      simp at hj hv'
      subst hj hv'
      exact ⟨Maps.has_put_same hm (by simp [WideAt.IsKeyLit]) _, d, hv, fun z => Maps.atKey_put_same hm (by simp [WideAt.IsKeyLit]) _ _⟩
  · rw [List.mem_append, List.mem_singleton, not_or] at hs'
    rw [Maps.has_put_other (bytes_inj hs'.2)]
    exact h5 s' hs'.1
end

/-- 'm[s] = v' at the operation. -/
theorem wpList_put {w : World} {M : Nat} {KS : List ByteArray} {VS : List Value} {ops : Array Oper} {rest : List Oper} {o : Oper} {a : Act} {Q : Exit → Act → World → Prop}
    (hg : o.guard = none) (m x y : Operand) (t e : TypeId) (hop : o.op = Op.mapUpdate t m x y) (ht : Yba.prog.underlying t = some (.map 9 e)) (h : MapIs w M KS VS) (hm : a.eval m = .map (some M)) (hn : KS.length < maxLen)
    (s : ByteArray) (hx : a.eval x = .string s) (hs : s.size ≤ maxLen) (hnew : s ∉ KS) (v : Value) (hy : a.eval y = v) (d : DataW Unit) (hv : elemOf v = some (d, []))
    (hK : ∀ w', MapIs w' M (KS ++ [s]) (VS ++ [v]) → w.grownBy w' (some M) → wpList Yba.prog ops Q rest (a.put o.dst undef) w') : wpList Yba.prog ops Q (o :: rest) a w := by
  refine wpList_plain hg fun K' hK' => ?_
  obtain ⟨w', hrun, r1, r2⟩ := h.put ht hn hs hnew hv
  unfold Oper.wp
  simp [execOp, hop, hm, hx, hy, hrun, Result.andThen]
  exact hK' _ _ (hK w' r1 r2)
end Go.Proofs.Ybulkexohm
