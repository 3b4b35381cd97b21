/-
  The arguments as plain lists; avers (5) at whatever source.
-/
import Derived.Test.YbulkexohmVers
namespace Go.Proofs.Ybulkexohm
open Go.RowKit
set_option linter.unusedVariables false
/-- The source of a row of versions: where it is not empty, it lies somewhere. -/
def Src (w : World) (sa : Option Addr) (vs : List Ver) : Prop := vs = [] ∨ ∃ vb vo, sa = some ⟨vb, vo, none⟩ ∧ vb < w.heap.size ∧ ∀ i v, vs[i]? = some v → SrcAt w vb (vo + i * 5) v
theorem Src.below {w wr : World} {sa : Option Addr} {vs : List Ver} (h : Src w sa vs) (hb : Below w.heap.size w wr) : Src wr sa vs := by
  rcases h with h | ⟨vb, vo, e, hl, h⟩
  · exact .inl h
  · exact .inr ⟨vb, vo, e, Nat.lt_of_lt_of_le hl hb.size, fun i v hi => srcAt_below (h i v hi) hb hl⟩
set_option maxRecDepth 100000 in
set_option maxHeartbeats 2000000 in
theorem avers_empty (sa : Option Addr) (cap : Nat) (w : World) :
    Calls Yba.prog 5 #[.slice sa 0 cap] w fun e w' =>
      ∃ g, e = .returned (.slice (some ⟨g, 0, none⟩) 0 0) ∧ VRow w' (.slice (some ⟨g, 0, none⟩) 0 0) [] ∧ w.heap.size ≤ g ∧ Below w.heap.size w w' := by
  obtain ⟨i0, hi, hz0, hz1, hz2⟩ := info_parts info82
  go_enter Yba.func5, Yba.ntmps5
  go_wp2_with (at_make; refine wpList_make_full _ rfl (.tmp 10) (.tmp 10) 71 rfl 0 82 i0 zver.val 10 Yba.underlying71 hi hz0 hz1 .i64 .i64 _ _ 0 rfl rfl rfl rfl (by rw [hz2]; omega) (by unfold maxLen; omega) (Nat.zero_le _) ?_; intro w1 hown1 hgrow1)
  go_loopw [5] (fun i wr => i = .int .i64 0 ∧ wr = w1) (fun _ _ => 0)
  case atStart => exact ⟨rfl, rfl⟩
  case round =>
    obtain ⟨rfl, rfl⟩ := hrel
    go_wp2
    go_ret
    rw [made_vers 0] at hown1
    exact ⟨_, rfl, hown1, Nat.le_refl _, ((Chg.refl (fun _ => False) w).grown hgrow1 (by simp)).below (fun _ _ h => h) (Nat.le_refl _)⟩
theorem avers_src {w : World} {sa : Option Addr} {vs : List Ver} (h : Src w sa vs) (cap : Nat) (hl : vs.length ≤ 140737488355328) :
    Calls Yba.prog 5 #[.slice sa vs.length cap] w fun e w' =>
      ∃ g, e = .returned (.slice (some ⟨g, 0, none⟩) (vs.take 8).length (vs.take 8).length) ∧ VRow w' (.slice (some ⟨g, 0, none⟩) (vs.take 8).length (vs.take 8).length) (vs.take 8) ∧ w.heap.size ≤ g ∧ Below w.heap.size w w' := by
  rcases h with rfl | ⟨vb, vo, rfl, hv, h⟩
  · exact avers_empty sa cap w
  · exact avers_any vb vo cap vs w hl hv h

/-- One drop of the argument. -/
structure DIn where
  key : ByteArray
  nl : Bool
  tr : Bool
  nt : Int
  wb : Int
  hs : Int
  dt : Int
  sa : Option Addr
  sc : Nat
  vs : List Ver
structure DropAt (w : World) (g o : Nat) (d : DIn) : Prop where
  c0 : w.cell? ⟨g, o, none⟩ = some (.string d.key)
  c1 : w.cell? ⟨g, o + 1, none⟩ = some (.bool d.nl)
  c2 : w.cell? ⟨g, o + 2, none⟩ = some (.bool d.tr)
  c3 : w.cell? ⟨g, o + 3, none⟩ = some (.int .u64 d.nt)
  c4 : w.cell? ⟨g, o + 4, none⟩ = some (.int .u64 d.wb)
  c5 : w.cell? ⟨g, o + 5, none⟩ = some (.int .u64 d.hs)
  c6 : w.cell? ⟨g, o + 6, none⟩ = some (.int .u64 d.dt)
  c7 : w.cell? ⟨g, o + 7, none⟩ = some (.slice d.sa d.vs.length d.sc)
theorem DropAt.below {w wr : World} {g o : Nat} {d : DIn} (h : DropAt w g o d) (hb : Below w.heap.size w wr) (hg : g < w.heap.size) : DropAt wr g o d :=
  ⟨(hb.cell (p := ⟨g, o, none⟩) hg).trans h.c0, (hb.cell (p := ⟨g, o + 1, none⟩) hg).trans h.c1, (hb.cell (p := ⟨g, o + 2, none⟩) hg).trans h.c2, (hb.cell (p := ⟨g, o + 3, none⟩) hg).trans h.c3, (hb.cell (p := ⟨g, o + 4, none⟩) hg).trans h.c4, (hb.cell (p := ⟨g, o + 5, none⟩) hg).trans h.c5, (hb.cell (p := ⟨g, o + 6, none⟩) hg).trans h.c6, (hb.cell (p := ⟨g, o + 7, none⟩) hg).trans h.c7⟩
/-- The law's arguments: the drops, the picks. -/
structure In (w : World) (a : Option Addr) (DL : List DIn) (pa : Option Addr) (PL : List Int) : Prop where
  drops : ∀ i d, DL[i]? = some d → ∃ g o, a = some ⟨g, o, none⟩ ∧ g < w.heap.size ∧ DropAt w g (o + i * 8) d ∧ Src w d.sa d.vs ∧ d.vs.length ≤ 140737488355328 ∧ d.key.size ≤ 140737488351232
  picks : ∀ i p, PL[i]? = some p → ∃ g o, pa = some ⟨g, o, none⟩ ∧ g < w.heap.size ∧ w.cell? ⟨g, o + i, none⟩ = some (.int .u16 p) ∧ 0 ≤ p ∧ p < 65536
/-- As it stands at a later world. -/
theorem In.drop {w wr : World} {a pa : Option Addr} {DL : List DIn} {PL : List Int} (h : In w a DL pa PL) (hb : Below w.heap.size w wr) {i : Nat} {d : DIn} (hi : DL[i]? = some d) :
    ∃ g o, a = some ⟨g, o, none⟩ ∧ g < wr.heap.size ∧ DropAt wr g (o + i * 8) d ∧ Src wr d.sa d.vs ∧ d.vs.length ≤ 140737488355328 ∧ d.key.size ≤ 140737488351232 := by
  obtain ⟨g, o, r1, r2, r3, r4, r5, r6⟩ := h.drops i d hi
  exact ⟨g, o, r1, Nat.lt_of_lt_of_le r2 hb.size, r3.below hb r2, r4.below hb, r5, r6⟩
theorem In.pick {w wr : World} {a pa : Option Addr} {DL : List DIn} {PL : List Int} (h : In w a DL pa PL) (hb : Below w.heap.size w wr) {i : Nat} {p : Int} (hi : PL[i]? = some p) :
    ∃ g o, pa = some ⟨g, o, none⟩ ∧ g < wr.heap.size ∧ wr.cell? ⟨g, o + i, none⟩ = some (.int .u16 p) ∧ 0 ≤ p ∧ p < 65536 := by
  obtain ⟨g, o, r1, r2, r3, r4⟩ := h.picks i p hi
  exact ⟨g, o, r1, Nat.lt_of_lt_of_le r2 hb.size, (hb.cell (p := ⟨g, o + i, none⟩) r2).trans r3, r4⟩
end Go.Proofs.Ybulkexohm
