/-
  What all walks of this seat share: versions and exclusions as cells, rows of them, and what a call may have turned.
-/
import Derived.Test.YbulkexohmChecked
import Derived.WalkKit
import Derived.RegionTactic
import Derived.Deep.QuietTactic
import Derived.BigQuiet
import Derived.Laws.OwnMore
import Derived.Deep.AppendLies
namespace Go.Proofs.Ybulkexohm
open Go.RowKit

theorem int_eq {k : IntKind} {a b : Int} (h : a = b) : Value.int k a = .int k b := by rw [h]

/-! ### Rows of several cells an element -/
theorem flat_get {α : Type} (f : α → List Value) (m : Nat) (hf : ∀ x, (f x).length = m) : ∀ (l : List α) (i c : Nat), c < m → (l.flatMap f)[i * m + c]? = (l[i]?).bind fun x => (f x)[c]?
  | [], i, c, _ => by simp
  | x :: r, 0, c, hc => by
    rw [List.flatMap_cons, List.getElem?_append_left (by rw [hf]; omega)]
    simp
  | x :: r, i + 1, c, hc => by
    rw [List.flatMap_cons, List.getElem?_append_right (by rw [hf, Nat.add_mul]; omega), hf]
    have e : (i + 1) * m + c - m = i * m + c := by rw [Nat.add_mul]; omega
    rw [e, flat_get f m hf r i c hc]
    simp
theorem flat_length {α : Type} (f : α → List Value) (m : Nat) (hf : ∀ x, (f x).length = m) : ∀ l : List α, (l.flatMap f).length = l.length * m
  | [] => by simp
  | x :: r => by rw [List.flatMap_cons, List.length_append, hf, flat_length f m hf r, List.length_cons, Nat.add_mul]; omega

/-- A version, but for the fields that this law leaves at nought. -/
structure Ver where
  ts : Int
  sq : Int
  sc : ByteArray
  tb : ByteArray
  dr : Bool
def Ver.cells (v : Ver) : List Value := [.int .u64 v.ts, .int .u64 v.sq, .string v.sc, .string v.tb, .pointer none, .bool v.dr, .bool false, .bool false, .int .u64 0, .slice none 0 0]
def Ver.val (v : Ver) : Value := .agg #[.int .u64 v.ts, .int .u64 v.sq, .string v.sc, .string v.tb, .pointer none, .bool v.dr, .bool false, .bool false, .int .u64 0, .slice none 0 0]
def vcells (l : List Ver) : List Value := l.flatMap Ver.cells
theorem Ver.cells_length (v : Ver) : v.cells.length = 10 := rfl
theorem vcells_length (l : List Ver) : (vcells l).length = l.length * 10 := flat_length _ 10 Ver.cells_length l
theorem vcells_get (l : List Ver) (i c : Nat) (hc : c < 10) : (vcells l)[i * 10 + c]? = (l[i]?).bind fun v => v.cells[c]? := flat_get _ 10 Ver.cells_length l i c hc
theorem vcells_snoc (l : List Ver) (v : Ver) : vcells l ++ v.cells = vcells (l ++ [v]) := by simp [vcells]
theorem Ver.oneCell (v : Ver) : ∀ u ∈ v.cells, u.oneCell' = true := by
  intro u hu
  simp only [Ver.cells, List.mem_cons, List.not_mem_nil, or_false] at hu
  rcases hu with rfl | rfl | rfl | rfl | rfl | rfl | rfl | rfl | rfl | rfl <;> rfl

/-- The ten cells of a version lie at 'o' in block 'g'. -/
structure VerAt (w : World) (g o : Nat) (v : Ver) : Prop where
  c0 : w.cell? ⟨g, o, none⟩ = some (.int .u64 v.ts)
  c1 : w.cell? ⟨g, o + 1, none⟩ = some (.int .u64 v.sq)
  c2 : w.cell? ⟨g, o + 2, none⟩ = some (.string v.sc)
  c3 : w.cell? ⟨g, o + 3, none⟩ = some (.string v.tb)
  c4 : w.cell? ⟨g, o + 4, none⟩ = some (.pointer none)
  c5 : w.cell? ⟨g, o + 5, none⟩ = some (.bool v.dr)
  c6 : w.cell? ⟨g, o + 6, none⟩ = some (.bool false)
  c7 : w.cell? ⟨g, o + 7, none⟩ = some (.bool false)
  c8 : w.cell? ⟨g, o + 8, none⟩ = some (.int .u64 0)
  c9 : w.cell? ⟨g, o + 9, none⟩ = some (.slice none 0 0)
/-- A slice that is the head of a row of versions. -/
abbrev VRow (w : World) (sv : Value) (l : List Ver) : Prop := w.ownsRow 0 82 10 sv l.length (vcells l)
theorem VRow.at {w : World} {g cap : Nat} {l : List Ver} (h : VRow w (.slice (some ⟨g, 0, none⟩) l.length cap) l) {i : Nat} {v : Ver} (hi : l[i]? = some v) : VerAt w g (i * 10) v := by
  have hlt : i < l.length := (List.getElem?_eq_some_iff.1 hi).1
  have key : ∀ c, c < 10 → w.cell? ⟨g, i * 10 + c, none⟩ = v.cells[c]? := fun c hc => by
    rw [h.cellAt (i * 10 + c) (by omega), vcells_get l i c hc, hi]; rfl
  exact ⟨key 0 (by omega), key 1 (by omega), key 2 (by omega), key 3 (by omega), key 4 (by omega), key 5 (by omega), key 6 (by omega), key 7 (by omega), key 8 (by omega), key 9 (by omega)⟩

/-- An exclusion. -/
structure Exc where
  sc : ByteArray
  tb : ByteArray
  sq : Int
  wh : Bool
def Exc.cells (x : Exc) : List Value := [.string x.sc, .string x.tb, .int .u64 x.sq, .bool x.wh]
def xcells (l : List Exc) : List Value := l.flatMap Exc.cells
theorem Exc.cells_length (x : Exc) : x.cells.length = 4 := rfl
theorem xcells_length (l : List Exc) : (xcells l).length = l.length * 4 := flat_length _ 4 Exc.cells_length l
theorem xcells_get (l : List Exc) (i c : Nat) (hc : c < 4) : (xcells l)[i * 4 + c]? = (l[i]?).bind fun v => v.cells[c]? := flat_get _ 4 Exc.cells_length l i c hc
theorem xcells_snoc (l : List Exc) (x : Exc) : xcells l ++ x.cells = xcells (l ++ [x]) := by simp [xcells]
theorem Exc.oneCell (x : Exc) : ∀ u ∈ x.cells, u.oneCell' = true := by
  intro u hu
  simp only [Exc.cells, List.mem_cons, List.not_mem_nil, or_false] at hu
  rcases hu with rfl | rfl | rfl | rfl <;> rfl
structure ExcAt (w : World) (g o : Nat) (x : Exc) : Prop where
  c0 : w.cell? ⟨g, o, none⟩ = some (.string x.sc)
  c1 : w.cell? ⟨g, o + 1, none⟩ = some (.string x.tb)
  c2 : w.cell? ⟨g, o + 2, none⟩ = some (.int .u64 x.sq)
  c3 : w.cell? ⟨g, o + 3, none⟩ = some (.bool x.wh)
abbrev XRow (w : World) (sv : Value) (l : List Exc) : Prop := w.ownsRow 0 86 4 sv l.length (xcells l)
theorem XRow.at {w : World} {g cap : Nat} {l : List Exc} (h : XRow w (.slice (some ⟨g, 0, none⟩) l.length cap) l) {i : Nat} {v : Exc} (hi : l[i]? = some v) : ExcAt w g (i * 4) v := by
  have hlt : i < l.length := (List.getElem?_eq_some_iff.1 hi).1
  have key : ∀ c, c < 4 → w.cell? ⟨g, i * 4 + c, none⟩ = v.cells[c]? := fun c hc => by
    rw [h.cellAt (i * 4 + c) (by omega), xcells_get l i c hc, hi]; rfl
  exact ⟨key 0 (by omega), key 1 (by omega), key 2 (by omega), key 3 (by omega)⟩

/-! ### What a call may have turned -/
/-- 'w'' is 'w' but for new blocks and for old ones of 'S'. -/
structure Chg (S : Nat → Prop) (w w' : World) : Prop where
  os : w'.os = w.os
  tape : w'.tape = w.tape
  output : w'.output = w.output
  size : w.heap.size ≤ w'.heap.size
  block : ∀ k, k < w.heap.size → ¬ S k → w'.heap[k]? = w.heap[k]?
theorem Chg.refl (S : Nat → Prop) (w : World) : Chg S w w := ⟨rfl, rfl, rfl, Nat.le_refl _, fun _ _ _ => rfl⟩
theorem Chg.trans {S : Nat → Prop} {a b c : World} (h : Chg S a b) (k : Chg S b c) : Chg S a c :=
  ⟨k.os.trans h.os, k.tape.trans h.tape, k.output.trans h.output, Nat.le_trans h.size k.size, fun i hi hs => (k.block i (Nat.lt_of_lt_of_le hi h.size) hs).trans (h.block i hi hs)⟩
/-- Of the later step only what it does to old blocks counts. -/
theorem Chg.andThen {S T : Nat → Prop} {a b c : World} (h : Chg S a b) (k : Chg T b c) (hT : ∀ i, i < a.heap.size → T i → S i) : Chg S a c :=
  ⟨k.os.trans h.os, k.tape.trans h.tape, k.output.trans h.output, Nat.le_trans h.size k.size, fun i hi hs => (k.block i (Nat.lt_of_lt_of_le hi h.size) (fun ht => hs (hT i hi ht))).trans (h.block i hi hs)⟩
theorem Chg.mono {S T : Nat → Prop} {a b : World} (h : Chg S a b) (hT : ∀ i, i < a.heap.size → S i → T i) : Chg T a b :=
  ⟨h.os, h.tape, h.output, h.size, fun i hi hs => h.block i hi (fun h' => hs (hT i hi h'))⟩
theorem Chg.below {B : Nat} {S : Nat → Prop} {a b : World} (h : Chg S a b) (hS : ∀ i, i < B → ¬ S i) (hB : B ≤ a.heap.size) : Below B a b :=
  ⟨h.os, h.tape, h.output, h.size, fun i hi => h.block i (Nat.lt_of_lt_of_le hi hB) (hS i hi)⟩
theorem Chg.alloc (S : Nat → Prop) (w : World) (o : Obj) : Chg S w (w.alloc o) := ⟨rfl, rfl, rfl, by simp, fun k hk _ => Below.heap_alloc w o k hk⟩
theorem Chg.drew {S : Nat → Prop} {a w : World} (h : Chg S a w) : Chg S a w.drew := ⟨h.os, h.tape, h.output, h.size, h.block⟩
theorem Chg.drewN {S : Nat → Prop} {a w : World} (h : Chg S a w) : ∀ n, Chg S a (w.drewN n)
  | 0 => h
  | n + 1 => (Chg.drewN h n).drew
theorem Chg.setCell {S : Nat → Prop} {a w : World} (h : Chg S a w) (p : Addr) (u : Value) (hp : p.block < a.heap.size → S p.block) : Chg S a (w.setCell p u) :=
  ⟨h.os, h.tape, h.output, by simpa [World.setCell] using h.size, fun k hk hs => by
    rw [Below.heap_setCell _ _ _ _ (fun e => hs (by rw [e] at hk ⊢; exact hp hk))]
    exact h.block k hk hs⟩
theorem Chg.grown {S : Nat → Prop} {a w w' : World} {row : Option Nat} (h : Chg S a w) (hg : w.grownBy w' row) (hr : ∀ k, row = some k → k < a.heap.size → S k) : Chg S a w' :=
  ⟨hg.os.trans h.os, hg.tape.trans h.tape, hg.output.trans h.output, Nat.le_trans h.size hg.size, fun k hk hs =>
    (hg.block k (Nat.lt_of_lt_of_le hk h.size) (fun e => hs (hr k e.symm hk))).trans (h.block k hk hs)⟩
theorem Chg.ofBelow {a w : World} (h : Below a.heap.size a w) (S : Nat → Prop) : Chg S a w := ⟨h.os, h.tape, h.output, h.size, fun k hk _ => h.block k hk⟩
theorem Chg.cell {S : Nat → Prop} {a w : World} (h : Chg S a w) {p : Addr} (hp : p.block < a.heap.size) (hs : ¬ S p.block) : w.cell? p = a.cell? p := World.cell?_of_block (h.block p.block hp hs)
theorem Chg.row {S : Nat → Prop} {a w : World} (h : Chg S a w) {base : Nat} {e : TypeId} {size n : Nat} {v : Value} {xs : List Value} (hr : a.ownsRow base e size v n xs) (hs : ∀ k, v.ownBlock = some k → ¬ S k) : w.ownsRow base e size v n xs := by
  refine ⟨hr.1, ?_⟩
  rcases hr.2 with h0 | ⟨g, cap, cur, rfl, hb, hg, rest⟩
  · exact .inl h0
  · exact .inr ⟨g, cap, cur, rfl, hb, by rw [h.block g (Array.getElem?_eq_some_iff.1 hg).1 (hs g rfl)]; exact hg, rest⟩
end Go.Proofs.Ybulkexohm
