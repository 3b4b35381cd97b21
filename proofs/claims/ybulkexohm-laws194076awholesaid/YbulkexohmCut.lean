/-
  The law's body, cut where its statements meet; more of what stands behind undoDrops.
-/
import Derived.Test.YbulkexohmSix
import Derived.Test.YbulkexohmEq
namespace Go.Proofs.Ybulkexohm
open Go.RowKit Go.Maps
set_option linter.unusedVariables false
/-- The region 'n' of a sequence, and what stands behind it. -/
def regionAt (n : Nat) : Code → Option (Code × Code)
  | .seq (.region i o d) b => if i == n then some (.region i o d, b) else regionAt n b
  | .seq _ b => regionAt n b
  | _ => none
def cutOf (c : Option Code) (n : Nat) : Code × Code := (c.bind (regionAt n)).getD (.skip, .skip)
/-- What the law answers. -/
def Says (w : World) : Exit → Act → World → Prop := bodyPost Yba.prog Yba.f3 fun e w' => e = .returned (.bool true) ∧ Below w.heap.size w w'
theorem row_cell {w : World} {g K n e cap : Nat} {xs : List Value} (h : w.ownsRow 0 e 1 (.slice (some ⟨g, 0, none⟩) K cap) K xs) (hn : n < K) : ∃ u, w.cell? ⟨g, n, none⟩ = some u := by
  rw [h.cellAt n (by omega)]
  exact ⟨_, List.getElem?_eq_getElem (by rw [h.1]; omega)⟩
theorem rows_apart {w1 : World} {K MV MT MN : Nat} {mvs mts mns : List Value} (hmv : w1.ownsRow 0 71 1 (.slice (some ⟨MV, 0, none⟩) K K) K mvs) (hmt : w1.ownsRow 0 4 1 (.slice (some ⟨MT, 0, none⟩) K K) K mts) (hmn : w1.ownsRow 0 24 1 (.slice (some ⟨MN, 0, none⟩) K K) K mns) :
    MV ≠ MT ∧ MV ≠ MN ∧ MT ≠ MN ∧ MT ≠ MV ∧ MN ≠ MV ∧ MN ≠ MT := by
  have n1 : MV ≠ MT := fun e => row_ne hmv hmt (by decide) (k := MV) rfl (by rw [e]; rfl)
  have n2 : MV ≠ MN := fun e => row_ne hmv hmn (by decide) (k := MV) rfl (by rw [e]; rfl)
  have n3 : MT ≠ MN := fun e => row_ne hmt hmn (by decide) (k := MT) rfl (by rw [e]; rfl)
  exact ⟨n1, n2, n3, n1.symm, n2.symm, n3.symm⟩
theorem in_src {w wr : World} {a pa : Option Addr} {DL : List DIn} {PL : List Int} (h : In w a DL pa PL) (hb : Below w.heap.size w wr) {i : Nat} {d : DIn} (hi : DL[i]? = some d) : Src wr d.sa d.vs := by
  obtain ⟨_, _, _, _, _, r, _⟩ := h.drop hb hi
  exact r
theorem drop_chg {w w' : World} {g o M : Nat} {d : DIn} (h : DropAt w g o d) (hc : Chg (fun k => k = M) w w') (hg : g < w.heap.size) (hM : g ≠ M) : DropAt w' g o d := by
  have k : ∀ i, w'.cell? ⟨g, i, none⟩ = w.cell? ⟨g, i, none⟩ := fun i => hc.cell (p := ⟨g, i, none⟩) hg hM
  exact ⟨(k _).trans h.c0, (k _).trans h.c1, (k _).trans h.c2, (k _).trans h.c3, (k _).trans h.c4, (k _).trans h.c5, (k _).trans h.c6, (k _).trans h.c7⟩
theorem drop_same {w w' : World} {g o : Nat} {d : DIn} (h : DropAt w g o d) (hc : Chg (fun _ => False) w w') (hg : g < w.heap.size) : DropAt w' g o d := by
  have k : ∀ i, w'.cell? ⟨g, i, none⟩ = w.cell? ⟨g, i, none⟩ := fun i => hc.cell (p := ⟨g, i, none⟩) hg (fun u => u)
  exact ⟨(k _).trans h.c0, (k _).trans h.c1, (k _).trans h.c2, (k _).trans h.c3, (k _).trans h.c4, (k _).trans h.c5, (k _).trans h.c6, (k _).trans h.c7⟩
theorem drop_box (w : World) (d : DIn) : DropAt (w.alloc (.cells #[.string d.key, .bool d.nl, .bool d.tr, .int .u64 d.nt, .int .u64 d.wb, .int .u64 d.hs, .int .u64 d.dt, .slice d.sa d.vs.length d.sc] 27)) w.heap.size 0 d := by
  have h := heap_alloc_new w (.cells #[.string d.key, .bool d.nl, .bool d.tr, .int .u64 d.nt, .int .u64 d.wb, .int .u64 d.hs, .int .u64 d.dt, .slice d.sa d.vs.length d.sc] 27)
  constructor <;> (unfold World.cell?; rw [h]; rfl)
theorem run_ex (ts sq : Int) (KS : List ByteArray) : ∀ (l : List ByteArray) (st : St), (st.run ts sq KS l).ex.length ≤ st.ex.length + l.length
  | [], st => Nat.le_refl _
  | s :: l, st => by
    have h1 := run_ex ts sq KS l (st.step ts sq KS s)
    have h2 := step_ex ts sq KS st s
    have h3 : (st.run ts sq KS (s :: l)) = (st.step ts sq KS s).run ts sq KS l := rfl
    rw [h3, List.length_cons]
    omega
section
variable {w : World} {DL : List DIn} {I : Nat} {kv lv : Value} {m : Nat} {KS : List ByteArray} {LS : List Nat} {T MV MT MN : Nat} {ts sq : Int} {dm exv : Value} {VS : List Value} {mvs mts mns : List Value} {wr w' : World} {SB : Nat} {SS : List ByteArray} {cv ev : Value} {st : St}
theorem L6.tab (h : L6 w DL I kv lv m KS LS T dm MV MT MN ts sq exv VS SB SS cv ev mvs mts mns st wr) : Tab wr T ts sq st.ds dm exv := by
  obtain ⟨B, S, hb, g, cap, hR⟩ := h.real
  exact hR.tab
theorem L6.row (h : L6 w DL I kv lv m KS LS T dm MV MT MN ts sq exv VS SB SS cv ev mvs mts mns st wr) : XRow wr exv st.ex := by
  obtain ⟨B, S, hb, g, cap, hR⟩ := h.real
  exact hR.row
theorem L6.drops (h : L6 w DL I kv lv m KS LS T dm MV MT MN ts sq exv VS SB SS cv ev mvs mts mns st wr) : Drops wr dm KS VS := by
  obtain ⟨B, S, hb, g, cap, hR⟩ := h.real
  exact hR.drops
theorem L6.gone (h : L6 w DL I kv lv m KS LS T dm MV MT MN ts sq exv VS SB SS cv ev mvs mts mns st wr) {j : Nat} (hj : st.hs[j]? = some none) : VS[j]? = some (.pointer none) := by
  obtain ⟨B, S, hb, g, cap, hR⟩ := h.real
  exact hR.gone j hj
/-- A history and its copy. -/
theorem L6.held (h : L6 w DL I kv lv m KS LS T dm MV MT MN ts sq exv VS SB SS cv ev mvs mts mns st wr) {j : Nat} {x : Hist} (hj : st.hs[j]? = some (some x)) (hK : j < KS.length) :
    ∃ H G C g o cap, VS[j]? = some (.pointer (some ⟨H, 0, none⟩)) ∧ HistIs wr H G C x ∧ mvs[j]? = some (.slice (some ⟨g, o, none⟩) x.vs.length cap) ∧ mts[j]? = some (.bool x.tr) ∧ mns[j]? = some (.int .u64 x.nt) ∧ g < wr.heap.size ∧ (∀ i v, x.vs[i]? = some v → VerAt wr g (o + i * 10) v) ∧ x.vs.length ≤ 8 := by
  obtain ⟨B, S, hb, g, cap, hR⟩ := h.real
  obtain ⟨S', hM⟩ := h.model
  obtain ⟨r1, r2, r3, r4, r5, r6⟩ := hR.held j x hj
  obtain ⟨mg, o, c, C, q1, q2, q3, q4, q5, q6, q7, q8⟩ := hM.each j x hK hj
  exact ⟨_, _, _, _, _, _, r1, r2, q1, q2, q3, (Array.getElem?_eq_some_iff.1 q5).1, q6, q7⟩
end
/-- A history, its copy and the drop that it came from, ready to be held against one another. -/
structure Cmp (MV MT MN n H G C g o cap dB : Nat) (x : Hist) (d : DIn) (wr : World) : Prop where
  hist : HistIs wr H G C x
  vers : ∀ i v, x.vs[i]? = some v → VerAt wr g (o + i * 10) v
  lt : g < wr.heap.size
  mv : wr.cell? ⟨MV, n, none⟩ = some (.slice (some ⟨g, o, none⟩) x.vs.length cap)
  mt : wr.cell? ⟨MT, n, none⟩ = some (.bool x.tr)
  mn : wr.cell? ⟨MN, n, none⟩ = some (.int .u64 x.nt)
  lts : MV < wr.heap.size ∧ MT < wr.heap.size ∧ MN < wr.heap.size ∧ dB < wr.heap.size
  drop : DropAt wr dB 0 d
theorem Cmp.same {MV MT MN n H G C g o cap dB : Nat} {x : Hist} {d : DIn} {wr w' : World} (h : Cmp MV MT MN n H G C g o cap dB x d wr) (hc : Chg (fun _ => False) wr w') : Cmp MV MT MN n H G C g o cap dB x d w' := by
  have k : ∀ b i, b < wr.heap.size → w'.cell? ⟨b, i, none⟩ = wr.cell? ⟨b, i, none⟩ := fun b i hb => hc.cell (p := ⟨b, i, none⟩) hb (fun u => u)
  obtain ⟨l1, l2, l3, l4⟩ := h.lts
  have z := hc.size
  exact ⟨h.hist.same (hc.block _ h.hist.lt.1 (fun u => u)) (hc.block _ h.hist.lt.2 (fun u => u)), fun i v hi => (h.vers i v hi).same (hc.block _ h.lt (fun u => u)), by have := h.lt; omega, (k _ _ l1).trans h.mv, (k _ _ l2).trans h.mt, (k _ _ l3).trans h.mn, ⟨by omega, by omega, by omega, by omega⟩, drop_same h.drop hc l4⟩
section
variable {w : World} {DL : List DIn} {I : Nat} {kv lv : Value} {m : Nat} {KS : List ByteArray} {LS : List Nat} {T MV MT MN : Nat} {ts sq : Int} {dm exv : Value} {VS : List Value} {mvs mts mns : List Value} {wr w' : World} {SB : Nat} {SS : List ByteArray} {cv ev : Value} {st : St}
theorem L6.cmp (h : L6 w DL I kv lv m KS LS T dm MV MT MN ts sq exv VS SB SS cv ev mvs mts mns st wr) {j : Nat} {x : Hist} (hj : st.hs[j]? = some (some x)) (hK : j < KS.length) (d : DIn) :
    ∃ H G C g o cap, VS[j]? = some (.pointer (some ⟨H, 0, none⟩)) ∧ x.vs.length ≤ 8 ∧ Cmp MV MT MN j H G C g o cap wr.heap.size x d (wr.alloc (.cells #[.string d.key, .bool d.nl, .bool d.tr, .int .u64 d.nt, .int .u64 d.wb, .int .u64 d.hs, .int .u64 d.dt, .slice d.sa d.vs.length d.sc] 27)) := by
  obtain ⟨H, G, C, g, o, cap, v1, hH, q1, q2, q3, hgl, hv, h8⟩ := h.held hj hK
  obtain ⟨S', hM⟩ := h.model
  have hc := Chg.alloc (fun _ => False) wr (.cells #[.string d.key, .bool d.nl, .bool d.tr, .int .u64 d.nt, .int .u64 d.wb, .int .u64 d.hs, .int .u64 d.dt, .slice d.sa d.vs.length d.sc] 27)
  have k : ∀ b i, b < wr.heap.size → (wr.alloc (.cells #[.string d.key, .bool d.nl, .bool d.tr, .int .u64 d.nt, .int .u64 d.wb, .int .u64 d.hs, .int .u64 d.dt, .slice d.sa d.vs.length d.sc] 27)).cell? ⟨b, i, none⟩ = wr.cell? ⟨b, i, none⟩ := fun b i hb => hc.cell (p := ⟨b, i, none⟩) hb (fun u => u)
  have l1 := (hM.mv.lt MV rfl).2
  have l2 := (hM.mt.lt MT rfl).2
  have l3 := (hM.mn.lt MN rfl).2
  have c1 : wr.cell? ⟨MV, j, none⟩ = some (.slice (some ⟨g, o, none⟩) x.vs.length cap) := by rw [hM.mv.cellAt j (by omega)]; exact q1
  have c2 : wr.cell? ⟨MT, j, none⟩ = some (.bool x.tr) := by rw [hM.mt.cellAt j (by omega)]; exact q2
  have c3 : wr.cell? ⟨MN, j, none⟩ = some (.int .u64 x.nt) := by rw [hM.mn.cellAt j (by omega)]; exact q3
  exact ⟨H, G, C, g, o, cap, v1, h8, hH.same (hc.block _ hH.lt.1 (fun u => u)) (hc.block _ hH.lt.2 (fun u => u)), fun i v hi => (hv i v hi).same (hc.block _ hgl (fun u => u)), by simp; omega, (k _ _ l1).trans c1, (k _ _ l2).trans c2, (k _ _ l3).trans c3, ⟨by simp; omega, by simp; omega, by simp; omega, by simp⟩, drop_box wr d⟩
end
end Go.Proofs.Ybulkexohm
