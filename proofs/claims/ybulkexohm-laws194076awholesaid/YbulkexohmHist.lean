/-
  A history as one word; push by one contract; the block of the Tables.
-/
import Derived.Test.YbulkexohmPushFull
import Derived.Test.YbulkexohmMaps
namespace Go.Proofs.Ybulkexohm
open Go.RowKit
set_option linter.unusedVariables false

/-- A history's content. -/
structure Hist where
  vs : List Ver
  tr : Bool
  nt : Int
  wb : Int
  hs : Int
  dt : Int
def Hist.push (h : Hist) (v : Ver) : Hist := ⟨if h.vs.length = 8 then h.vs.tail ++ [v] else h.vs ++ [v], h.tr || decide (h.vs.length = 8), max h.nt v.ts, h.wb, h.hs, h.dt⟩
/-- History 'h' lies in block 'hb', its versions in the row 'g'. -/
structure HistIs (w : World) (hb g cap : Nat) (h : Hist) : Prop where
  at_ : HistAt w hb (.slice (some ⟨g, 0, none⟩) h.vs.length cap) h.tr h.nt h.wb h.hs h.dt
  row : VRow w (.slice (some ⟨g, 0, none⟩) h.vs.length cap) h.vs
theorem VRow.block {w : World} {g cap n : Nat} {xs : List Value} {e size : Nat} (h : w.ownsRow 0 e size (.slice (some ⟨g, 0, none⟩) n cap) n xs) : ∃ C, w.heap[g]? = some (.cells C e (0, 0)) := by
  rcases h.2 with ⟨h0, _⟩ | ⟨g', cap', cur, hv, _, hg, _⟩
  · cases h0
  · cases hv; exact ⟨cur, hg⟩
theorem HistIs.ne {w : World} {hb g cap : Nat} {h : Hist} (hh : HistIs w hb g cap h) : hb ≠ g := fun e => by
  obtain ⟨C, hC⟩ := VRow.block hh.row
  have h1 := hh.at_
  unfold HistAt at h1
  rw [e, hC] at h1
  injection h1 with h1
  injection h1 with _ h2 _
  cases h2
theorem HistIs.same {w w' : World} {hb g cap : Nat} {h : Hist} (hh : HistIs w hb g cap h) (e1 : w'.heap[hb]? = w.heap[hb]?) (e2 : w'.heap[g]? = w.heap[g]?) : HistIs w' hb g cap h := by
  refine ⟨hh.at_.same e1, ?_⟩
  obtain ⟨r1, r2⟩ := hh.row
  refine ⟨r1, ?_⟩
  rcases r2 with r2 | ⟨g', cap', cur, hv, r3, r4, r5⟩
  · exact .inl r2
  · cases hv; exact .inr ⟨_, _, cur, rfl, r3, e2.trans r4, r5⟩
theorem HistIs.lt {w : World} {hb g cap : Nat} {h : Hist} (hh : HistIs w hb g cap h) : hb < w.heap.size ∧ g < w.heap.size := ⟨hh.at_.lt, (hh.row.lt g rfl).2⟩

theorem push_any (hb g : Nat) (h : Hist) (v : Ver) (w : World) (h8 : h.vs.length ≤ 8) (hH : HistIs w hb g h.vs.length h) :
    Calls Yba.prog 25 #[.pointer (some ⟨hb, 0, none⟩), v.val] w fun e w' => e = .returned (.tuple #[]) ∧ ∃ g' cap', HistIs w' hb g' cap' (h.push v) ∧ (w.heap.size ≤ g' ∨ g' = g) ∧ Chg (fun k => k = hb ∨ k = g) w w' := by
  by_cases e8 : h.vs.length = 8
  · have h1 := hH.at_
    have h2 := hH.row
    unfold VRow at h2
    rw [e8] at h1 h2
    refine (push_full hb g h.vs h.tr h.nt h.wb h.hs h.dt v w e8 h1 h2 hH.ne).mono ?_
    rintro e w' ⟨he, g', cap', r1, r2, r3, r4, r5⟩
    refine ⟨he, g', cap', ?_, r3, r5⟩
    have ep : h.push v = ⟨h.vs.tail ++ [v], true, max h.nt v.ts, h.wb, h.hs, h.dt⟩ := by simp [Hist.push, e8]
    rw [ep]
    exact ⟨r1, r2⟩
  · refine (push_lt hb g h.vs h.tr h.nt h.wb h.hs h.dt v w (by omega) hH.at_ hH.row).mono ?_
    rintro e w' ⟨he, g', cap', r1, r2, r3, r4, r5⟩
    refine ⟨he, g', cap', ?_, r3.elim .inl (fun h => h.elim), r5.mono (fun _ _ h => h.elim .inl (fun h => h.elim))⟩
    have ep : h.push v = ⟨h.vs ++ [v], h.tr, max h.nt v.ts, h.wb, h.hs, h.dt⟩ := by simp [Hist.push, e8]
    rw [ep]
    exact ⟨r1, r2⟩

/-- The block of the Tables: the five cells that this law looks at. -/
def Tab (w : World) (T : Nat) (ts sq ds : Int) (dm ex : Value) : Prop :=
  ∃ C : Array Value, w.heap[T]? = some (.cells C 65 (0, 0)) ∧ C.size = 71 ∧ C[9]? = some (.int .u64 sq) ∧ C[10]? = some (.int .u64 ts) ∧ C[53]? = some dm ∧ C[61]? = some ex ∧ C[69]? = some (.int .u64 ds)
theorem Tab.same {w w' : World} {T : Nat} {ts sq ds : Int} {dm ex : Value} (h : Tab w T ts sq ds dm ex) (e : w'.heap[T]? = w.heap[T]?) : Tab w' T ts sq ds dm ex := by
  obtain ⟨C, h0, r⟩ := h; exact ⟨C, e.trans h0, r⟩
theorem Tab.lt {w : World} {T : Nat} {ts sq ds : Int} {dm ex : Value} (h : Tab w T ts sq ds dm ex) : T < w.heap.size := by
  obtain ⟨C, h0, _⟩ := h; exact (Array.getElem?_eq_some_iff.1 h0).1
theorem Tab.cells {w : World} {T : Nat} {ts sq ds : Int} {dm ex : Value} (h : Tab w T ts sq ds dm ex) :
    w.cell? ⟨T, 9, none⟩ = some (.int .u64 sq) ∧ w.cell? ⟨T, 10, none⟩ = some (.int .u64 ts) ∧ w.cell? ⟨T, 53, none⟩ = some dm ∧ w.cell? ⟨T, 61, none⟩ = some ex ∧ w.cell? ⟨T, 69, none⟩ = some (.int .u64 ds) ∧ ∀ j, w.frozen? ⟨T, j, none⟩ = false := by
  obtain ⟨C, h0, h1, h2, h3, h4, h5, h6⟩ := h
  exact ⟨(cell_of_row w T 9 C 65 (0, 0) h0).trans h2, (cell_of_row w T 10 C 65 (0, 0) h0).trans h3, (cell_of_row w T 53 C 65 (0, 0) h0).trans h4, (cell_of_row w T 61 C 65 (0, 0) h0).trans h5, (cell_of_row w T 69 C 65 (0, 0) h0).trans h6, fun j => by simp [World.frozen?, h0]⟩
theorem Tab.set61 {w : World} {T : Nat} {ts sq ds : Int} {dm ex : Value} (h : Tab w T ts sq ds dm ex) (x : Value) : Tab (w.setCell ⟨T, 61, none⟩ x) T ts sq ds dm x := by
  obtain ⟨C, h0, h1, h2, h3, h4, h5, h6⟩ := h
  refine ⟨_, heap_setCell_at (i := 61) h0 x, by simp [h1], (Array.getElem?_setIfInBounds_ne (by decide)).trans h2, (Array.getElem?_setIfInBounds_ne (by decide)).trans h3, (Array.getElem?_setIfInBounds_ne (by decide)).trans h4, Array.getElem?_setIfInBounds_self_of_lt (by omega), (Array.getElem?_setIfInBounds_ne (by decide)).trans h6⟩
theorem Tab.set69 {w : World} {T : Nat} {ts sq ds : Int} {dm ex : Value} (h : Tab w T ts sq ds dm ex) (x : Int) : Tab (w.setCell ⟨T, 69, none⟩ (.int .u64 x)) T ts sq x dm ex := by
  obtain ⟨C, h0, h1, h2, h3, h4, h5, h6⟩ := h
  refine ⟨_, heap_setCell_at (i := 69) h0 _, by simp [h1], (Array.getElem?_setIfInBounds_ne (by decide)).trans h2, (Array.getElem?_setIfInBounds_ne (by decide)).trans h3, (Array.getElem?_setIfInBounds_ne (by decide)).trans h4, (Array.getElem?_setIfInBounds_ne (by decide)).trans h5, Array.getElem?_setIfInBounds_self_of_lt (by omega)⟩
theorem Tab.type {w : World} {T : Nat} {ts sq ds : Int} {dm ex : Value} (h : Tab w T ts sq ds dm ex) {b : Nat} {C : Array Value} {t : TypeId} {fr : Nat × Nat} (hb : w.heap[b]? = some (.cells C t fr)) (ht : t ≠ 65) : T ≠ b := fun e => by
  obtain ⟨D, h0, _⟩ := h
  rw [e, hb] at h0
  injection h0 with h0
  injection h0 with _ h2 _
  exact ht h2
end Go.Proofs.Ybulkexohm
