/-
  The law's second loop: the keys in the order of their coming, where each comes last.
-/
import Derived.Test.YbulkexohmUndo
import Derived.Test.YbulkexohmIn
import Derived.Test.YbulkexohmClone
namespace Go.Proofs.Ybulkexohm
open Go.RowKit Go.Maps
set_option linter.unusedVariables false
theorem info3 : (Yba.prog.info? 3).map (fun i => (i.zero, i.size, i.bytes)) = some (some (.int .i64 0), 1, 8) := by kernel_rfl
theorem below_drewN {B : Nat} {w wr : World} (h : Below B w wr) : ∀ n, Below B w (wr.drewN n)
  | 0 => h
  | n + 1 => (below_drewN h n).drew
def ints (l : List Nat) : List Value := l.map fun (i : Nat) => Value.int .i64 (i : Int)
theorem ints_length (l : List Nat) : (ints l).length = l.length := by simp [ints]
theorem ints_get {l : List Nat} {j i : Nat} (h : l[j]? = some i) : (ints l)[j]? = some (.int .i64 i) := by simp [ints, h]
theorem row_set {w : World} {e g n cap : Nat} {xs : List Value} (h : w.ownsRow 0 e 1 (.slice (some ⟨g, 0, none⟩) n cap) n xs) (i : Nat) (u : Value) : (w.setCell ⟨g, i, none⟩ u).ownsRow 0 e 1 (.slice (some ⟨g, 0, none⟩) n cap) n (xs.set i u) := (h.stored i u).1
theorem grown_chg {w w' : World} {row : Option Nat} (h : w.grownBy w' row) : Chg (fun k => row = some k) w w' := (Chg.refl _ w).grown h (fun k e _ => e)
theorem map_ne {w : World} {I : Nat} {KS : List ByteArray} {VS : List Value} (h : MapIs w I KS VS) {v : Value} {e size n : Nat} {xs : List Value} (hr : w.ownsRow 0 e size v n xs) : v.ownBlock ≠ some I := fun hk => by
  obtain ⟨es, c, hm⟩ := h.isMap
  rcases hr.2 with ⟨rfl, _⟩ | ⟨g, cap, cur, rfl, _, hg, _⟩
  · simp [Value.ownBlock] at hk
  · simp [Value.ownBlock] at hk
    subst hk
    rw [hm] at hg
    injection hg with hg
    cases hg
theorem row_ne {w : World} {v v' : Value} {e e' size size' n n' : Nat} {xs xs' : List Value} (h : w.ownsRow 0 e size v n xs) (h' : w.ownsRow 0 e' size' v' n' xs') (hne : e ≠ e') {k : Nat} (hk : v.ownBlock = some k) : v'.ownBlock ≠ some k := by
  rcases h.2 with ⟨rfl, _⟩ | ⟨g, cap, cur, rfl, _, hg, _⟩
  · simp [Value.ownBlock] at hk
  · simp [Value.ownBlock] at hk
    subst hk
    exact XRow.type h' hg hne

/-- What stands in the second loop. -/
structure L2 (w : World) (DL : List DIn) (I : Nat) (kv lv : Value) (m : Nat) (KS : List ByteArray) (LS : List Nat) (wr : World) : Prop where
  below : Below w.heap.size w wr
  map : MapIs wr I KS (ints (List.range KS.length))
  mapN : w.heap.size ≤ I
  keys : SRow wr kv KS
  keysN : ∀ k, kv.ownBlock = some k → w.heap.size ≤ k
  last : wr.ownsRow 0 3 1 lv LS.length (ints LS)
  lastN : ∀ k, lv.ownBlock = some k → w.heap.size ≤ k
  len : LS.length = KS.length
  lastLt : ∀ l ∈ LS, l < DL.length
  ksz : ∀ s ∈ KS, s.size ≤ 140737488351232
  msz : m ≤ 140737488351232
  nodup : KS.Nodup
theorem L2.start {w wr : World} (DL : List DIn) (hb : Below w.heap.size w wr) : L2 w DL wr.heap.size (.slice none 0 0) (.slice none 0 0) 0 [] [] (wr.alloc (.map #[] 0)) :=
  ⟨hb.alloc hb.size _, MapIs.made wr, hb.size, World.ownsRow_nil _ 0 9 1, fun k hk => by simp [Value.ownBlock] at hk, World.ownsRow_nil _ 0 3 1, fun k hk => by simp [Value.ownBlock] at hk, rfl, fun l hl => by simp at hl, fun l hl => by simp at hl, Nat.zero_le _, List.nodup_nil⟩
section
variable {w : World} {DL : List DIn} {I : Nat} {kv lv : Value} {m : Nat} {KS : List ByteArray} {LS : List Nat} {wr : World}
/-- Where the key is there. -/
theorem L2.old {lg lc i j : Nat} (h : L2 w DL I kv (.slice (some ⟨lg, 0, none⟩) LS.length lc) m KS LS wr) (hi : i < DL.length) :
    L2 w DL I kv (.slice (some ⟨lg, 0, none⟩) (LS.set j i).length lc) m KS (LS.set j i) (wr.setCell ⟨lg, j, none⟩ (.int .i64 i)) := by
  have hc : Chg (fun k => k = lg) wr (wr.setCell ⟨lg, j, none⟩ (.int .i64 i)) := (Chg.refl (fun k => k = lg) wr).setCell ⟨lg, j, none⟩ _ (fun _ => rfl)
  have hlg := h.lastN lg rfl
  have hr := row_set h.last j (.int .i64 (i : Int))
  refine ⟨h.below.setCell (p := ⟨lg, j, none⟩) hlg _, h.map.same (hc.block I h.map.lt (fun e => map_ne h.map h.last (by rw [e]; rfl))), h.mapN, hc.row h.keys (fun k hk e => row_ne h.keys h.last (by decide) hk (by rw [e]; rfl)), h.keysN, ?_, fun k hk => h.lastN k hk, by simpa using h.len, fun l hl => ?_, h.ksz, h.msz, h.nodup⟩
  · have e : (ints LS).set j (.int .i64 (i : Int)) = ints (LS.set j i) := by simp [ints, List.map_set]
    rw [e] at hr
    simpa using hr
  · rcases List.mem_or_eq_of_mem_set hl with h1 | h1
    · exact h.lastLt l h1
    · rw [h1]; exact hi
/-- A new key: the map. -/
structure L2a (w : World) (DL : List DIn) (I : Nat) (kv lv : Value) (KS KS' : List ByteArray) (LS : List Nat) (n : Nat) (wr : World) : Prop where
  below : Below w.heap.size w wr
  map : MapIs wr I KS' (ints (List.range KS'.length))
  keys : SRow wr kv KS
  keysN : ∀ k, kv.ownBlock = some k → w.heap.size ≤ k
  last : wr.ownsRow 0 3 1 lv LS.length (ints LS)
  lastN : ∀ k, lv.ownBlock = some k → w.heap.size ≤ k
theorem L2.put {w1 : World} {s : ByteArray} (h : L2 w DL I kv lv m KS LS wr) (hm : MapIs w1 I (KS ++ [s]) (ints (List.range KS.length) ++ [.int .i64 KS.length])) (hg : wr.grownBy w1 (some I)) : L2a w DL I kv lv KS (KS ++ [s]) LS 0 w1 := by
  have hc := grown_chg hg
  have ei : ints (List.range (KS ++ [s]).length) = ints (List.range KS.length) ++ [.int .i64 KS.length] := by simp [ints, List.range_succ]
  refine ⟨h.below.grown hg h.below.size (fun k hk => by simp at hk; subst hk; exact h.mapN), ?_, hc.row h.keys (fun k hk e => map_ne h.map h.keys (by rw [hk, e])), h.keysN, hc.row h.last (fun k hk e => map_ne h.map h.last (by rw [hk, e])), h.lastN⟩
  rw [ei]; exact hm
theorem L2a.alloc {KS' : List ByteArray} {n : Nat} (h : L2a w DL I kv lv KS KS' LS n wr) (o : Obj) : L2a w DL I kv lv KS KS' LS n (wr.alloc o) :=
  ⟨h.below.alloc h.below.size o, h.map.same (Below.heap_alloc _ _ _ h.map.lt), h.keys.alloc o, h.keysN, h.last.alloc o, h.lastN⟩
/-- .. the keys. -/
theorem L2a.key {w1 : World} {s : ByteArray} {g cap H : Nat} {o : Obj} (h : L2a w DL I kv lv KS (KS ++ [s]) LS 0 wr) (hown : w1.ownsRow 0 9 1 (.slice (some ⟨g, 0, none⟩) (KS.length + 1) cap) (KS.length + 1) (KS.map Value.string ++ [.string s]))
    (hg : (wr.alloc o).grownBy w1 kv.ownBlock) (hat : kv.ownBlock = some g ∨ g = wr.heap.size + H) : L2a w DL I (.slice (some ⟨g, 0, none⟩) (KS.length + 1) cap) lv (KS ++ [s]) (KS ++ [s]) LS 0 w1 := by
  have h' := h.alloc o
  have hc := grown_chg hg
  refine ⟨h'.below.grown hg h'.below.size h.keysN, h'.map.same (hc.block I h'.map.lt (map_ne h'.map h'.keys)), ?_, fun k hk => ?_, hc.row h'.last (fun k hk e => row_ne h'.last h'.keys (by decide) hk e), h.lastN⟩
  · have e : KS.map Value.string ++ [.string s] = (KS ++ [s]).map Value.string := by simp
    rw [e] at hown
    show w1.ownsRow 0 9 1 _ (KS ++ [s]).length _
    rw [List.length_append]
    exact hown
  · simp [Value.ownBlock] at hk
    subst hk
    rcases hat with e | e
    · exact h.keysN _ e
    · have := h.below.size; omega
/-- .. the last. -/
theorem L2a.done {w1 : World} {s : ByteArray} {g cap H i m' : Nat} {o : Obj} (h0 : L2 w DL I kv lv m KS LS wr) {w2 : World} {kv' : Value} (h : L2a w DL I kv' lv (KS ++ [s]) (KS ++ [s]) LS 0 w2)
    (hown : w1.ownsRow 0 3 1 (.slice (some ⟨g, 0, none⟩) (LS.length + 1) cap) (LS.length + 1) (ints LS ++ [.int .i64 (i : Int)]))
    (hg : (w2.alloc o).grownBy w1 lv.ownBlock) (hat : lv.ownBlock = some g ∨ g = w2.heap.size + H) (hi : i < DL.length) (hs : s.size ≤ 140737488351232) (hm : m' ≤ 140737488351232) (hnew : s ∉ KS) :
    L2 w DL I kv' (.slice (some ⟨g, 0, none⟩) (LS.length + 1) cap) m' (KS ++ [s]) (LS ++ [i]) w1 := by
  have h' := h.alloc o
  have hc := grown_chg hg
  refine ⟨h'.below.grown hg h'.below.size h.lastN, h'.map.same (hc.block I h'.map.lt (map_ne h'.map h'.last)), h0.mapN, hc.row h'.keys (fun k hk e => row_ne h'.keys h'.last (by decide) hk e), h.keysN, ?_, fun k hk => ?_, by simp [h0.len], fun l hl => ?_, fun x hx => ?_, hm, ?_⟩
  · have e : ints LS ++ [.int .i64 (i : Int)] = ints (LS ++ [i]) := by simp [ints]
    rw [e] at hown
    rw [List.length_append]
    exact hown
  · simp [Value.ownBlock] at hk
    subst hk
    rcases hat with e | e
    · exact h.lastN _ e
    · have := h.below.size; omega
  · rcases List.mem_append.1 hl with h1 | h1
    · exact h0.lastLt l h1
    · rw [List.mem_singleton.1 h1]; exact hi
  · rcases List.mem_append.1 hx with h1 | h1
    · exact h0.ksz x h1
    · rw [List.mem_singleton.1 h1]; exact hs
  · rw [List.nodup_append]
    exact ⟨h0.nodup, by simp, fun x hx y hy e => hnew (by rw [List.mem_singleton] at hy; rw [← hy, ← e]; exact hx)⟩
theorem L2.fresh (h : L2 w DL I kv lv m KS LS wr) {n : Nat} {s : ByteArray} (hs : KS[n]? = some s) : s ∉ KS.take n := fun hm => by
  have hn := h.nodup
  rw [← List.take_append_drop n KS, List.nodup_append] at hn
  have hd : s ∈ KS.drop n := List.mem_of_getElem? (i := 0) (by rw [List.getElem?_drop]; exact hs)
  exact hn.2.2 s hm s hd rfl
end
end Go.Proofs.Ybulkexohm
