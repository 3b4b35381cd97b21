/-
  The walk of (*history).push (25), onto a history that is not full; and the laws of the full one.
-/
import Derived.Test.YbulkexohmLaws
namespace Go.Proofs.Ybulkexohm
open Go.RowKit
set_option linter.unusedVariables false

/-- A history's block. -/
def HistAt (w : World) (hb : Nat) (sv : Value) (tr : Bool) (nt wb hs dt : Int) : Prop :=
  w.heap[hb]? = some (.cells #[sv, .bool tr, .int .u64 nt, .int .u64 wb, .int .u64 hs, .int .u64 dt] 74 (0, 0))
theorem HistAt.lt {w : World} {hb : Nat} {sv : Value} {tr : Bool} {nt wb hs dt : Int} (h : HistAt w hb sv tr nt wb hs dt) : hb < w.heap.size := (Array.getElem?_eq_some_iff.1 h).1
theorem HistAt.cells {w : World} {hb : Nat} {sv : Value} {tr : Bool} {nt wb hs dt : Int} (h : HistAt w hb sv tr nt wb hs dt) :
    w.cell? ⟨hb, 0, none⟩ = some sv ∧ w.cell? ⟨hb, 1, none⟩ = some (.bool tr) ∧ w.cell? ⟨hb, 2, none⟩ = some (.int .u64 nt) ∧ w.cell? ⟨hb, 3, none⟩ = some (.int .u64 wb) ∧ w.cell? ⟨hb, 4, none⟩ = some (.int .u64 hs) ∧ w.cell? ⟨hb, 5, none⟩ = some (.int .u64 dt) ∧ ∀ j, w.frozen? ⟨hb, j, none⟩ = false := by
  unfold HistAt at h
  refine ⟨?_, ?_, ?_, ?_, ?_, ?_, fun j => ?_⟩ <;> simp [World.cell?, World.frozen?, h]
theorem HistAt.same {w w' : World} {hb : Nat} {sv : Value} {tr : Bool} {nt wb hs dt : Int} (h : HistAt w hb sv tr nt wb hs dt) (e : w'.heap[hb]? = w.heap[hb]?) : HistAt w' hb sv tr nt wb hs dt := e.trans h
theorem heap_setCell_at {w : World} {b i : Nat} {C : Array Value} {t : TypeId} {fr : Nat × Nat} (h : w.heap[b]? = some (.cells C t fr)) (u : Value) : (w.setCell ⟨b, i, none⟩ u).heap[b]? = some (.cells (C.setIfInBounds i u) t fr) := by
  simp [World.setCell, Array.getElem?_modify, h]

theorem new_at_drew (w : World) (o : Obj) (cs : List Value) (t : TypeId) : ∀ j u, cs[j]? = some u → ((w.alloc o).alloc (.cells cs.toArray t)).drew.cell? ((⟨w.heap.size + 1, 0, none⟩ : Addr).add j) = some u := by
  intro j u hj
  have h := new_at (w.alloc o) cs t j u hj
  have e : (w.alloc o).heap.size = w.heap.size + 1 := by simp
  rw [e] at h
  exact (World.cell?_of_block (w := (w.alloc o).alloc (.cells cs.toArray t)) (w' := ((w.alloc o).alloc (.cells cs.toArray t)).drew) rfl).trans h
theorem own_base {w : World} {base e size n : Nat} {v : Value} {xs : List Value} (h : w.ownsRow base e size v n xs) : w.ownsRow 0 e size v n xs := by
  refine ⟨h.1, ?_⟩
  rcases h.2 with h0 | ⟨g, cap, cur, rfl, _, r⟩
  · exact .inl h0
  · exact .inr ⟨g, cap, cur, rfl, Nat.zero_le _, r⟩
/-- Behind the append that grows: what stands. -/
theorem push_step {w w' : World} {o' : Obj} {hb g' n cap' : Nat} {sv : Value} {tr : Bool} {nt wb hs dt : Int} {v : Ver} {xs : List Value} (h : HistAt w hb sv tr nt wb hs dt)
    (hown1 : w'.ownsRow (((w.alloc (.cells #[.int .u64 v.ts, .int .u64 v.sq, .string v.sc, .string v.tb, .pointer none, .bool v.dr, .bool false, .bool false, .int .u64 0, .slice none 0 0] 82)).alloc o').drew).heap.size 82 10 (.slice (some ⟨g', 0, none⟩) n cap') n xs)
    (hg' : (((w.alloc (.cells #[.int .u64 v.ts, .int .u64 v.sq, .string v.sc, .string v.tb, .pointer none, .bool v.dr, .bool false, .bool false, .int .u64 0, .slice none 0 0] 82)).alloc o').drew).heap.size ≤ g')
    (hg : (((w.alloc (.cells #[.int .u64 v.ts, .int .u64 v.sq, .string v.sc, .string v.tb, .pointer none, .bool v.dr, .bool false, .bool false, .int .u64 0, .slice none 0 0] 82)).alloc o').drew).grownBy w' none) :
    HistAt w' hb sv tr nt wb hs dt ∧ w'.ownsRow 0 82 10 (.slice (some ⟨g', 0, none⟩) n cap') n xs ∧ w.heap.size + 2 ≤ g' ∧ Chg (fun _ => False) w w' ∧ w'.cell? ⟨w.heap.size, 0, none⟩ = some (.int .u64 v.ts) := by
  have hl := h.lt
  have hs : ∀ (o o' : Obj), (((w.alloc o).alloc o').drew).heap.size = w.heap.size + 2 := fun o o' => by show ((w.alloc o).alloc o').heap.size = _; simp
  rw [hs] at hg'
  have hblk : ∀ k, k < w.heap.size + 1 → w'.heap[k]? = (w.alloc (.cells #[.int .u64 v.ts, .int .u64 v.sq, .string v.sc, .string v.tb, .pointer none, .bool v.dr, .bool false, .bool false, .int .u64 0, .slice none 0 0] 82)).heap[k]? := fun k hk => by
    rw [hg.block k (by rw [hs]; omega) (by simp)]
    show ((w.alloc _).alloc o').heap[k]? = _
    rw [Below.heap_alloc _ _ _ (by simp; omega)]
  refine ⟨h.same ?_, own_base hown1, hg', ⟨hg.os, hg.tape, hg.output, ?_, fun k hk _ => ?_⟩, ?_⟩
  · rw [hblk hb (by omega), Below.heap_alloc _ _ _ hl]
  · have := hg.size; rw [hs] at this; omega
  · rw [hblk k (by omega), Below.heap_alloc _ _ _ hk]
  · rw [World.cell?_of_block (w := w.alloc _) (a := ⟨w.heap.size, 0, none⟩) (hblk w.heap.size (by omega)), World.cell?_alloc_at _ _ _ _ rfl]
    rfl
/-- What push leaves. -/
def Pushed (hb : Nat) (vs : List Ver) (tr : Bool) (nt wb hs dt : Int) (S : Nat → Prop) (w : World) (e : Ending) (w' : World) : Prop :=
  e = .returned (.tuple #[]) ∧ ∃ g cap, HistAt w' hb (.slice (some ⟨g, 0, none⟩) vs.length cap) tr nt wb hs dt ∧ VRow w' (.slice (some ⟨g, 0, none⟩) vs.length cap) vs ∧ (w.heap.size ≤ g ∨ S g) ∧ g ≠ hb ∧ Chg (fun k => k = hb ∨ S k) w w'
theorem push_end {w W : World} {hb g' cap' : Nat} {sv : Value} {tr : Bool} {nt wb hs dt X : Int} {v : Ver} {vs : List Ver} (r1 : HistAt W hb sv tr nt wb hs dt)
    (r2 : W.ownsRow 0 82 10 (.slice (some ⟨g', 0, none⟩) (vs.length + 1) cap') (vs.length + 1) (vcells vs ++ v.cells)) (r3 : w.heap.size + 2 ≤ g') (r4 : Chg (fun _ => False) w W) (hlt : hb < w.heap.size) (hX : X = max nt v.ts) :
    Pushed hb (vs ++ [v]) tr (max nt v.ts) wb hs dt (fun _ => False) w (.returned (.tuple #[])) ((W.setCell ⟨hb, 0, none⟩ (.slice (some ⟨g', 0, none⟩) (vs.length + 1) cap')).setCell ⟨hb, 2, none⟩ (.int .u64 X)).drew := by
  have hc : Chg (fun k => k = hb) W ((W.setCell ⟨hb, 0, none⟩ (.slice (some ⟨g', 0, none⟩) (vs.length + 1) cap')).setCell ⟨hb, 2, none⟩ (.int .u64 X)).drew :=
    (((Chg.refl (fun k => k = hb) W).setCell ⟨hb, 0, none⟩ _ (fun _ => rfl)).setCell ⟨hb, 2, none⟩ _ (fun _ => rfl)).drew
  have e1 := heap_setCell_at (i := 0) r1 (.slice (some ⟨g', 0, none⟩) (vs.length + 1) cap')
  have e2 := heap_setCell_at (i := 2) e1 (.int .u64 X)
  have el : (vs ++ [v]).length = vs.length + 1 := by simp
  rw [vcells_snoc] at r2
  refine ⟨rfl, g', cap', ?_, ?_, .inl (by omega), by omega, (r4.mono (fun _ _ h => h.elim)).andThen hc (fun _ _ h => .inl h)⟩
  · rw [← hX, el]; exact e2
  · unfold VRow; rw [el]; exact hc.row r2 (fun k hk => by simp [Value.ownBlock] at hk; omega)
set_option maxRecDepth 100000 in
set_option maxHeartbeats 2000000 in
theorem push_lt (hb g : Nat) (vs : List Ver) (tr : Bool) (nt wb hs dt : Int) (v : Ver) (w : World) (hn : vs.length < 8) (hH : HistAt w hb (.slice (some ⟨g, 0, none⟩) vs.length vs.length) tr nt wb hs dt)
    (hown : VRow w (.slice (some ⟨g, 0, none⟩) vs.length vs.length) vs) :
    Calls Yba.prog 25 #[.pointer (some ⟨hb, 0, none⟩), v.val] w (Pushed hb (vs ++ [v]) tr (max nt v.ts) wb hs dt (fun _ => False) w) := by
  obtain ⟨i0, hi, hz0, hz1, hz2⟩ := info_parts info82
  have hlt := hH.lt
  obtain ⟨c0, c1, c2, c3, c4, c5, hF⟩ := hH.cells
  have hV : v.val = .agg #[.int .u64 v.ts, .int .u64 v.sq, .string v.sc, .string v.tb, .pointer none, .bool v.dr, .bool false, .bool false, .int .u64 0, .slice none 0 0] := rfl
  rw [hV]
  clear hV
  have h8 : ((vs.length : Int) == 8) = false := by simp; omega
  go_enter Yba.func25, Yba.ntmps25
  go_wp2
  go_region_law (refine step_append_grows rfl (.tmp 41) (.tmp 43) 71 rfl 82 i0 zver.val 10 96 Yba.underlying71 hi hz0 hz1 hz2 rfl (by decide) (some ⟨g, 0, none⟩) vs.length vs.length (vcells vs) (by rfl) (by simp) (vcells_length vs) (olds_at (World.ownsRow.drew ((hown.alloc _).alloc _))) ⟨w.heap.size + 1, 0, none⟩ 1 1 v.cells (by rfl) rfl (new_at_drew _ _ _ _) (Ver.oneCell v) (by omega) (by unfold maxLen; omega) (by omega) ?_; intro v' w' hown1 hgrow; obtain ⟨g', cap', rfl, hg', hgl⟩ := hown1.form (by omega); have R := push_step hH hown1 hg' hgrow; clear hown1 hg' hgrow hgl; obtain ⟨r1, r2, r3, r4, e6⟩ := R; obtain ⟨e0, e1, e2, e3, e4, e5, eF⟩ := r1.cells; have hl' : hb < w'.heap.size := r1.lt)
  all_goals go_wp2
  all_goals go_region
  all_goals go_wp2
  all_goals (go_end0; exact push_end r1 r2 r3 r4 hlt (by omega))

/-! ### The full history: copy, cut, append in place. -/
theorem hist_set0 {w : World} {hb : Nat} {sv : Value} {tr : Bool} {nt wb hs dt : Int} (h : HistAt w hb sv tr nt wb hs dt) (sv' : Value) : HistAt (w.setCell ⟨hb, 0, none⟩ sv') hb sv' tr nt wb hs dt := heap_setCell_at (i := 0) h sv'
theorem hist_set1 {w : World} {hb : Nat} {sv : Value} {tr : Bool} {nt wb hs dt : Int} (h : HistAt w hb sv tr nt wb hs dt) (x : Bool) : HistAt (w.setCell ⟨hb, 1, none⟩ (.bool x)) hb sv x nt wb hs dt := heap_setCell_at (i := 1) h (.bool x)
theorem hist_set2 {w : World} {hb : Nat} {sv : Value} {tr : Bool} {nt wb hs dt : Int} (h : HistAt w hb sv tr nt wb hs dt) (x : Int) : HistAt (w.setCell ⟨hb, 2, none⟩ (.int .u64 x)) hb sv tr x wb hs dt := heap_setCell_at (i := 2) h (.int .u64 x)
theorem hist_drew {w : World} {hb : Nat} {sv : Value} {tr : Bool} {nt wb hs dt : Int} (h : HistAt w hb sv tr nt wb hs dt) : HistAt w.drew hb sv tr nt wb hs dt := h
theorem chg_setCells {S : Nat → Prop} {a : World} {g : Nat} (hS : S g) : ∀ (vs : List Value) (o : Nat) {w : World}, Chg S a w → Chg S a (w.setCells g o vs)
  | [], _, _, h => h
  | u :: r, o, _, h => chg_setCells hS r (o + 1) (h.setCell ⟨g, o, none⟩ u (fun _ => hS))
/-- What stands in the midst of a push onto a full history. -/
structure Mid (w : World) (hb g : Nat) (sv : Value) (tr : Bool) (nt wb hs dt : Int) (l : List Ver) (v : Ver) (W : World) : Prop where
  hist : HistAt W hb sv tr nt wb hs dt
  own : W.ownsRow 0 82 10 (.slice (some ⟨g, 0, none⟩) 8 8) 8 (vcells l)
  chg : Chg (fun k => k = hb ∨ k = g) w W
  box : W.heap[w.heap.size]? = some (.cells v.cells.toArray 82 (0, 0))
theorem Mid.step {w : World} {hb g : Nat} {sv sv' : Value} {tr tr' : Bool} {nt nt' wb hs dt : Int} {l : List Ver} {v : Ver} {W W' : World} (h : Mid w hb g sv tr nt wb hs dt l v W) (hlt : hb < w.heap.size) (hne : hb ≠ g)
    (h1 : HistAt W' hb sv' tr' nt' wb hs dt) (h2 : Chg (fun k => k = hb) W W') : Mid w hb g sv' tr' nt' wb hs dt l v W' :=
  ⟨h1, h2.row h.own (fun k hk => by simp [Value.ownBlock] at hk; omega), h.chg.andThen h2 (fun _ _ e => .inl e), (h2.block _ (Array.getElem?_eq_some_iff.1 h.box).1 (by omega)).trans h.box⟩
theorem Mid.row {w : World} {hb g : Nat} {sv : Value} {tr : Bool} {nt wb hs dt : Int} {l l' : List Ver} {v : Ver} {W W' : World} (h : Mid w hb g sv tr nt wb hs dt l v W) (hlt : hb < w.heap.size) (hg : g < w.heap.size) (hne : hb ≠ g)
    (h1 : W'.ownsRow 0 82 10 (.slice (some ⟨g, 0, none⟩) 8 8) 8 (vcells l')) (h2 : Chg (fun k => k = g) W W') : Mid w hb g sv tr nt wb hs dt l' v W' :=
  ⟨h.hist.same (h2.block _ h.hist.lt (by omega)), h1, h.chg.andThen h2 (fun _ _ e => .inr e), (h2.block _ (Array.getElem?_eq_some_iff.1 h.box).1 (by omega)).trans h.box⟩
theorem Mid.alloc {w : World} {hb g : Nat} {sv : Value} {tr : Bool} {nt wb hs dt : Int} {l : List Ver} {v : Ver} {W : World} (h : Mid w hb g sv tr nt wb hs dt l v W) (hlt : hb < w.heap.size) (hne : hb ≠ g) (o : Obj) : Mid w hb g sv tr nt wb hs dt l v (W.alloc o) :=
  h.step hlt hne (h.hist.same (Below.heap_alloc _ _ _ h.hist.lt)) (Chg.alloc _ W o)
theorem Mid.drew {w : World} {hb g : Nat} {sv : Value} {tr : Bool} {nt wb hs dt : Int} {l : List Ver} {v : Ver} {W : World} (h : Mid w hb g sv tr nt wb hs dt l v W) : Mid w hb g sv tr nt wb hs dt l v W.drew := ⟨h.hist, h.own, h.chg.drew, h.box⟩
theorem setList_tail (vs : List Ver) (hn : vs.length = 8) : setList (vcells vs) 0 (vcells vs.tail) = vcells (vs.tail ++ [vs.getD 7 zver]) := by
  match vs, hn with
  | [a0, a1, a2, a3, a4, a5, a6, a7], _ => 
    rw [setList_eq _ _ _ (by simp [vcells_length])]
    simp [vcells, Ver.cells]
theorem step_copy_on {P : Program} {ops : Array Oper} {o : Oper} {a : Act} {w : World} {K : Act → World → Prop} {Q : Exit → Act → World → Prop} {E : Prop} (hgd : o.guard = none) (d s : Operand) (dT sT : TypeId)
    (ho : o.op = .call { callee := .builtin .copy, args := #[d, s], argTypes := #[dT, sT] }) (elem : TypeId) (size : Nat) (hu : P.underlying dT = some (.slice elem)) (hsz : (P.info? elem).map (·.size) = some size)
    (b off dLen dCap sLen sCap : Nat) (ad : Addr) (hd : a.eval d = .slice (some ⟨b, off, none⟩) dLen dCap) (hs : a.eval s = .slice (some ad) sLen sCap)
    (cs : List Value) (hn : cs.length = Nat.min sLen dLen * size)
    (hsrc : ∀ j v, cs[j]? = some v → w.cell? (ad.add j) = some v) (hc : ∀ j, j < cs.length → (w.cell? ⟨b, off + j, none⟩).isSome = true) (hf : ∀ j, j < cs.length → w.frozen? ⟨b, off + j, none⟩ = false) (h1 : ∀ v ∈ cs, v.oneCell' = true)
    (h : ∀ w', w' = w.setCells b off cs → K (a.put o.dst (goInt (Nat.min sLen dLen))) w') :
    if Region.wanted o (yielded ops a.tmps) = true then Oper.wp P o a w K Q else E :=
  step_copy_wide hgd d s dT sT ho elem size hu hsz b off dLen dCap sLen sCap ad hd hs cs hn hsrc hc hf h1 (h _ rfl)
theorem step_append_on {P : Program} {ops : Array Oper} {o : Oper} {a : Act} {w : World} {K : Act → World → Prop} {Q : Exit → Act → World → Prop} {E : Prop}
    (hg : o.guard = none) (s x : Operand) (t : TypeId) (hop : o.op = Op.call { callee := Callee.builtin Builtin.append, args := #[s, x], argTypes := #[t, t] })
    (e : TypeId) (i : TypeInfo) (size : Nat) (h1 : P.underlying t = some (.slice e)) (h2 : P.info? e = some i) (h4 : i.size = size)
    (b off n cap : Nat) (hs : a.eval s = .slice (some ⟨b, off, none⟩) n cap)
    (ad : Addr) (m c : Nat) (news : List Value) (hx : a.eval x = .slice (some ad) m c) (hn : news.length = m * size) (hc : ∀ j u, news[j]? = some u → w.cell? (ad.add j) = some u) (h1c : ∀ u ∈ news, u.oneCell' = true)
    (hroom : n + m ≤ cap) (hspare : ∀ j, j < news.length → (w.cell? ⟨b, off + n * size + j, none⟩).isSome = true ∧ w.frozen? ⟨b, off + n * size + j, none⟩ = false)
    (hK : ∀ w', w' = w.setCells b (off + n * size) news → K (a.put o.dst (.slice (some ⟨b, off, none⟩) (n + m) cap)) w') :
    if Region.wanted o (yielded ops a.tmps) = true then Oper.wp P o a w K Q else E :=
  step_append_room hg s x t hop e i size h1 h2 h4 b off n cap hs ad m c news hx hn hc h1c hroom hspare (hK _ rfl)
theorem size82 : (Yba.prog.info? 82).map (·.size) = some 10 := by kernel_rfl
theorem row_there {w : World} {g : Nat} {l : List Ver} (h : w.ownsRow 0 82 10 (.slice (some ⟨g, 0, none⟩) 8 8) 8 (vcells l)) : ∀ j, j < 80 → (w.cell? ⟨g, j, none⟩).isSome = true ∧ w.frozen? ⟨g, j, none⟩ = false := fun j hj => by
  refine ⟨?_, h.frozenAt j⟩
  rw [h.cellAt j (by omega), List.getElem?_eq_getElem (by rw [h.1]; omega)]
  rfl
theorem vcells_oneCell (l : List Ver) : ∀ u ∈ vcells l, u.oneCell' = true := by
  intro u hu
  obtain ⟨v, _, hv⟩ := List.mem_flatMap.1 hu
  exact v.oneCell u hv
/-- The source of the copy: the row from its second version on. -/
theorem tail_src {w : World} {g : Nat} {vs : List Ver} (h : w.ownsRow 0 82 10 (.slice (some ⟨g, 0, none⟩) 8 8) 8 (vcells vs)) (hn : vs.length = 8) : ∀ j u, (vcells vs.tail)[j]? = some u → w.cell? ((⟨g, 10, none⟩ : Addr).add j) = some u := by
  intro j u hj
  have hlt : j < (vcells vs.tail).length := (List.getElem?_eq_some_iff.1 hj).1
  rw [vcells_length, List.length_tail, hn] at hlt
  have e : (⟨g, 10, none⟩ : Addr).add j = ⟨g, 10 + j, none⟩ := by unfold Addr.add; split <;> simp_all
  rw [e, h.cellAt (10 + j) (by omega)]
  match vs, hn with
  | x :: r, _ =>
    have ev : vcells (x :: r) = x.cells ++ vcells r := by simp [vcells]
    rw [ev, List.getElem?_append_right (by rw [Ver.cells_length]; omega), Ver.cells_length, Nat.add_sub_cancel_left]
    exact hj
theorem new_at_eq (w : World) (cs : List Value) (t : TypeId) (H : Nat) (hH : w.heap.size = H) : ∀ j u, cs[j]? = some u → (w.alloc (.cells cs.toArray t)).drew.cell? ((⟨H, 0, none⟩ : Addr).add j) = some u := by
  intro j u hj
  subst hH
  exact (World.cell?_of_block (w := w.alloc (.cells cs.toArray t)) (w' := (w.alloc (.cells cs.toArray t)).drew) rfl).trans (new_at w cs t j u hj)
end Go.Proofs.Ybulkexohm
