/-
  The law's arguments, opened: a slice of drops, each with a slice of versions; a slice of numbers.
-/
import Derived.Test.YbulkexohmIn
import Derived.ProofKit
import Derived.Deep.Slices
import Derived.SizedLaws
namespace Go.Proofs.Ybulkexohm
open Go.ChangeShapes Go.WideShapes Go.ChangeAt Go.RowKit Go.Deep
set_option linter.unusedVariables false
theorem Yba.cells27 : Yba.prog.cellsOf 27 = 8 := by kernel_rfl
theorem Yba.cells94 : Yba.prog.cellsOf 94 = 5 := by kernel_rfl
theorem Yba.cells9 : Yba.prog.cellsOf 9 = 1 := by kernel_rfl
theorem Yba.cells4 : Yba.prog.cellsOf 4 = 1 := by kernel_rfl
theorem Yba.cells24 : Yba.prog.cellsOf 24 = 1 := by kernel_rfl
theorem Yba.cells25 : Yba.prog.cellsOf 25 = 1 := by kernel_rfl
theorem Yba.cells76 : Yba.prog.cellsOf 76 = 1 := by kernel_rfl
theorem Yba.bytes94 : Yba.prog.bytesOf 94 = 56 := by kernel_rfl
theorem cell_lt {w : World} {p : Addr} {u : Value} (h : w.cell? p = some u) : p.block < w.heap.size := by
  unfold World.cell? at h
  split at h
  · rename_i hb; exact (Array.getElem?_eq_some_iff.1 hb).1
  · cases h
theorem weights_all {H : Type} {P : Program} {e : TypeId} {n : Nat} {d : DataW H} : ∀ {l : List (DataW H)}, d ∈ l → n ∈ d.weights P e → n ∈ DataW.weightsAll P e l
  | x :: r, hd, hn => by
    simp only [DataW.weightsAll, List.mem_append]
    rcases List.mem_cons.1 hd with rfl | hd
    · exact .inl hn
    · exact .inr (weights_all hd hn)
section
variable {H : Type} {enc : TypeId × Value → H} {w : World} {spare : Nat → Bool} {held : Bool}
set_option maxRecDepth 10000 in
theorem open_ver {fuel : Nat} {cs : List Value} {x : DataW H × List MemPlace} (h : DataW.trod enc Yba.prog w 0 spare held fuel 94 cs = some x) :
    ∃ v : Ver, cs = [.int .u64 v.ts, .int .u64 v.sq, .string v.sc, .string v.tb, .bool v.dr] := by
  obtain ⟨xs, n, _, _, hl, hlen, hf⟩ := DataW.trod_struct Yba.underlying94 h
  rw [Yba.cells94] at hl
  have hlen' : xs.length = 5 := hlen
  clear hlen
  match cs, hl, xs, hlen' with
  | [c0, c1, c2, c3, c4], _, [y0, y1, y2, y3, y4], _ =>
    have g0 : DataW.trod enc Yba.prog w 0 spare held n 24 [c0] = some y0 := by have := hf 0 _ rfl; simpa [Yba.cells24] using this
    have g1 : DataW.trod enc Yba.prog w 0 spare held n 24 [c1] = some y1 := by have := hf 1 _ rfl; simpa [Yba.cells24] using this
    have g2 : DataW.trod enc Yba.prog w 0 spare held n 9 [c2] = some y2 := by have := hf 2 _ rfl; simpa [Yba.cells9] using this
    have g3 : DataW.trod enc Yba.prog w 0 spare held n 9 [c3] = some y3 := by have := hf 3 _ rfl; simpa [Yba.cells9] using this
    have g4 : DataW.trod enc Yba.prog w 0 spare held n 4 [c4] = some y4 := by have := hf 4 _ rfl; simpa [Yba.cells4] using this
    obtain ⟨a0, e0, _⟩ := DataW.trod_int Yba.underlying24 g0
    obtain ⟨a1, e1, _⟩ := DataW.trod_int Yba.underlying24 g1
    obtain ⟨a2, e2, _⟩ := DataW.trod_string Yba.underlying9 g2
    obtain ⟨a3, e3, _⟩ := DataW.trod_string Yba.underlying9 g3
    obtain ⟨a4, e4, _⟩ := DataW.trod_bool Yba.underlying4 g4
    cases e0; cases e1; cases e2; cases e3; cases e4
    exact ⟨⟨a0, a1, a2, a3, a4⟩, rfl⟩
theorem open_vers {fuel : Nat} {u : Value} {x : DataW H × List MemPlace} (h : DataW.trod enc Yba.prog w 0 spare held fuel 25 [u] = some x) (hw : ∀ n ∈ x.1.weights Yba.prog 25, n ≤ reachBytes) :
    ∃ sa vs sc, u = .slice sa (vs : List Ver).length sc ∧ Src w sa vs ∧ vs.length ≤ 140737488355328 := by
  rcases open_slice Yba.underlying25 h with ⟨h0, _⟩ | ⟨a, len, cap, m, n, D, Pl, h0, _, hl, hm, hmm, hx, hel⟩
  · cases h0
    exact ⟨none, [], 0, rfl, .inl rfl, by simp⟩
  · cases h0
    have hlm : len ≤ m := by rw [hmm]; split <;> omega
    rw [Yba.cells94] at hel
    have each : ∀ i, i < len → ∃ v : Ver, ∀ j, j < 5 → w.cell? (a.add (i * 5 + j)) = [Value.int .u64 v.ts, .int .u64 v.sq, .string v.sc, .string v.tb, .bool v.dr][j]? := fun i hi => by
      obtain ⟨cs', h1, h2⟩ := hel i (by omega)
      obtain ⟨_, _, hc⟩ := World.cells?_some h1
      obtain ⟨v, rfl⟩ := open_ver h2
      exact ⟨v, fun j hj => by rw [← add_add]; exact hc j hj⟩
    have iV : Inhabited Ver := ⟨zver⟩
    obtain ⟨f, hf⟩ := choose_lt each
    have hlen : ((List.range len).map f).length = len := by simp
    refine ⟨some a, (List.range len).map f, cap, by rw [hlen], ?_, ?_⟩
    · by_cases hz : len = 0
      · exact .inl (by rw [hz]; rfl)
      · obtain ⟨b, off, spot⟩ := a
        have c00 := hf 0 (by omega) 0 (by omega)
        have hspot : spot = none := by simpa [Addr.add] using World.cell?_spot c00
        subst hspot
        have hb : b < w.heap.size := by
          have := cell_lt c00
          simpa [Addr.add] using this
        refine .inr ⟨b, off, rfl, hb, fun i v hi => ?_⟩
        have hil : i < len := by
          have := (List.getElem?_eq_some_iff.1 hi).1
          simpa using this
        have ev : f i = v := by
          rw [List.getElem?_map, List.getElem?_range hil] at hi
          simpa using hi
        have hc := hf i hil
        rw [ev] at hc
        simp only [add_plain] at hc
        exact ⟨by simpa using hc 0 (by omega), by simpa [Nat.add_assoc] using hc 1 (by omega), by simpa [Nat.add_assoc] using hc 2 (by omega), by simpa [Nat.add_assoc] using hc 3 (by omega), by simpa [Nat.add_assoc] using hc 4 (by omega)⟩
    · rw [hlen]
      have hx1 : x.1 = .slice ((List.range len).map D) ((List.range (m - len)).map fun j => D (len + j)) := by rw [hx]
      have := hw ((len + (m - len)) * 56) (by rw [hx1]; simp [DataW.weights, Yba.underlying25, Yba.bytes94])
      have hr : reachBytes = 140737488351232 := rfl
      omega
set_option maxRecDepth 10000 in
theorem open_drop {fuel : Nat} {cs : List Value} {x : DataW H × List MemPlace} (h : DataW.trod enc Yba.prog w 0 spare held fuel 27 cs = some x) (hw : ∀ n ∈ x.1.weights Yba.prog 27, n ≤ reachBytes) :
    ∃ d : DIn, cs = [.string d.key, .bool d.nl, .bool d.tr, .int .u64 d.nt, .int .u64 d.wb, .int .u64 d.hs, .int .u64 d.dt, .slice d.sa d.vs.length d.sc] ∧ Src w d.sa d.vs ∧ d.vs.length ≤ 140737488355328 ∧ d.key.size ≤ 140737488351232 := by
  obtain ⟨xs, n, _, hx, hl, hlen, hf⟩ := DataW.trod_struct Yba.underlying27 h
  rw [Yba.cells27] at hl
  have hlen' : xs.length = 8 := hlen
  clear hlen
  match cs, hl, xs, hlen' with
  | [c0, c1, c2, c3, c4, c5, c6, c7], _, [y0, y1, y2, y3, y4, y5, y6, y7], _ =>
    have g0 : DataW.trod enc Yba.prog w 0 spare held n 9 [c0] = some y0 := by have := hf 0 _ rfl; simpa [Yba.cells9] using this
    have g1 : DataW.trod enc Yba.prog w 0 spare held n 4 [c1] = some y1 := by have := hf 1 _ rfl; simpa [Yba.cells4] using this
    have g2 : DataW.trod enc Yba.prog w 0 spare held n 4 [c2] = some y2 := by have := hf 2 _ rfl; simpa [Yba.cells4] using this
    have g3 : DataW.trod enc Yba.prog w 0 spare held n 24 [c3] = some y3 := by have := hf 3 _ rfl; simpa [Yba.cells24] using this
    have g4 : DataW.trod enc Yba.prog w 0 spare held n 24 [c4] = some y4 := by have := hf 4 _ rfl; simpa [Yba.cells24] using this
    have g5 : DataW.trod enc Yba.prog w 0 spare held n 24 [c5] = some y5 := by have := hf 5 _ rfl; simpa [Yba.cells24] using this
    have g6 : DataW.trod enc Yba.prog w 0 spare held n 24 [c6] = some y6 := by have := hf 6 _ rfl; simpa [Yba.cells24] using this
    have g7 : DataW.trod enc Yba.prog w 0 spare held n 25 [c7] = some y7 := by have := hf 7 _ rfl; simpa [Yba.cells25] using this
    have hx1 : x.1 = .agg [y0.1, y1.1, y2.1, y3.1, y4.1, y5.1, y6.1, y7.1] := by rw [hx]; rfl
    have hw' : ∀ n ∈ DataW.weightsEach Yba.prog [9, 4, 4, 24, 24, 24, 24, 25] [y0.1, y1.1, y2.1, y3.1, y4.1, y5.1, y6.1, y7.1], n ≤ reachBytes := fun n hn => hw n (by rw [hx1]; simpa [DataW.weights, Yba.underlying27] using hn)
    obtain ⟨a0, e0, z0, _⟩ := DataW.trod_string Yba.underlying9 g0
    obtain ⟨a1, e1, _⟩ := DataW.trod_bool Yba.underlying4 g1
    obtain ⟨a2, e2, _⟩ := DataW.trod_bool Yba.underlying4 g2
    obtain ⟨a3, e3, _⟩ := DataW.trod_int Yba.underlying24 g3
    obtain ⟨a4, e4, _⟩ := DataW.trod_int Yba.underlying24 g4
    obtain ⟨a5, e5, _⟩ := DataW.trod_int Yba.underlying24 g5
    obtain ⟨a6, e6, _⟩ := DataW.trod_int Yba.underlying24 g6
    obtain ⟨sa, vs, sc, e7, hs, hv⟩ := open_vers g7 (fun n hn => hw' n (DataW.weights_mem_each (j := 7) (t := 25) rfl rfl n hn))
    cases e0; cases e1; cases e2; cases e3; cases e4; cases e5; cases e6; cases e7
    refine ⟨⟨a0, a1, a2, a3, a4, a5, a6, sa, sc, vs⟩, rfl, hs, hv, ?_⟩
    have := hw' a0.data.toList.length (DataW.weights_mem_each (j := 0) (t := 9) rfl rfl _ (by rw [z0]; simp [DataW.weights]))
    have hr : reachBytes = 140737488351232 := rfl
    rw [hr] at this
    simpa using this
theorem open_drops {fuel : Nat} {u : Value} {x : DataW H × List MemPlace} (h : DataW.trod enc Yba.prog w 0 spare held fuel 22 [u] = some x) (hw : ∀ n ∈ x.1.weights Yba.prog 22, n ≤ reachBytes) :
    ∃ a DL dc, u = .slice a (DL : List DIn).length dc ∧ ∀ i d, DL[i]? = some d → ∃ g o, a = some ⟨g, o, none⟩ ∧ g < w.heap.size ∧ DropAt w g (o + i * 8) d ∧ Src w d.sa d.vs ∧ d.vs.length ≤ 140737488355328 ∧ d.key.size ≤ 140737488351232 := by
  rcases open_slice Yba.underlying22 h with ⟨h0, _⟩ | ⟨a, len, cap, m, n, D, Pl, h0, _, hl, hm, hmm, hx, hel⟩
  · cases h0
    exact ⟨none, [], 0, rfl, fun i d hi => by simp at hi⟩
  · cases h0
    have hlm : len ≤ m := by rw [hmm]; split <;> omega
    rw [Yba.cells27] at hel
    have hx1 : x.1 = .slice ((List.range len).map D) ((List.range (m - len)).map fun j => D (len + j)) := by rw [hx]
    have each : ∀ i, i < len → ∃ d : DIn, (∀ j, j < 8 → w.cell? (a.add (i * 8 + j)) = [Value.string d.key, .bool d.nl, .bool d.tr, .int .u64 d.nt, .int .u64 d.wb, .int .u64 d.hs, .int .u64 d.dt, .slice d.sa d.vs.length d.sc][j]?) ∧ Src w d.sa d.vs ∧ d.vs.length ≤ 140737488355328 ∧ d.key.size ≤ 140737488351232 := fun i hi => by
      obtain ⟨cs', h1, h2⟩ := hel i (by omega)
      obtain ⟨_, _, hc⟩ := World.cells?_some h1
      obtain ⟨d, rfl, r1, r2, r3⟩ := open_drop h2 (fun n hn => hw n (by
        rw [hx1]
        simp only [DataW.weights, Yba.underlying22, List.mem_cons, List.mem_append]
        exact .inr (.inl (weights_all (List.mem_map.2 ⟨i, List.mem_range.2 hi, rfl⟩) hn))))
      exact ⟨d, fun j hj => by rw [← add_add]; exact hc j hj, r1, r2, r3⟩
    have iD : Inhabited DIn := ⟨⟨⟨#[]⟩, false, false, 0, 0, 0, 0, none, 0, []⟩⟩
    obtain ⟨f, hf⟩ := choose_lt each
    have hlen : ((List.range len).map f).length = len := by simp
    refine ⟨some a, (List.range len).map f, cap, by rw [hlen], fun i d hi => ?_⟩
    have hil : i < len := by
      have := (List.getElem?_eq_some_iff.1 hi).1
      simpa using this
    have ev : f i = d := by
      rw [List.getElem?_map, List.getElem?_range hil] at hi
      simpa using hi
    obtain ⟨b, off, spot⟩ := a
    have c00 := (hf 0 (by omega)).1 0 (by omega)
    have hspot : spot = none := by simpa [Addr.add] using World.cell?_spot c00
    subst hspot
    have hb : b < w.heap.size := by
      have := cell_lt c00
      simpa [Addr.add] using this
    obtain ⟨hc, r1, r2, r3⟩ := hf i hil
    rw [ev] at hc r1 r2 r3
    simp only [add_plain] at hc
    exact ⟨b, off, rfl, hb, ⟨by simpa using hc 0 (by omega), by simpa [Nat.add_assoc] using hc 1 (by omega), by simpa [Nat.add_assoc] using hc 2 (by omega), by simpa [Nat.add_assoc] using hc 3 (by omega), by simpa [Nat.add_assoc] using hc 4 (by omega), by simpa [Nat.add_assoc] using hc 5 (by omega), by simpa [Nat.add_assoc] using hc 6 (by omega), by simpa [Nat.add_assoc] using hc 7 (by omega)⟩, r1, r2, r3⟩
theorem open_picks {fuel : Nat} {u : Value} {x : DataW H × List MemPlace} (h : DataW.trod enc Yba.prog w 0 spare held fuel 23 [u] = some x) :
    ∃ pa PL pc, u = .slice pa (PL : List Int).length pc ∧ ∀ i p, PL[i]? = some p → ∃ g o, pa = some ⟨g, o, none⟩ ∧ g < w.heap.size ∧ w.cell? ⟨g, o + i, none⟩ = some (.int .u16 p) ∧ 0 ≤ p ∧ p < 65536 := by
  rcases open_slice1 Yba.underlying23 Yba.cells76 h with ⟨h0, _⟩ | ⟨a, len, cap, m, n, V, D, Pl, h0, _, hl, hm, hmm, hx, hel⟩
  · cases h0
    exact ⟨none, [], 0, rfl, fun i d hi => by simp at hi⟩
  · cases h0
    have hlm : len ≤ m := by rw [hmm]; split <;> omega
    have each : ∀ i, i < len → ∃ p : Int, w.cell? (a.add i) = some (.int .u16 p) ∧ 0 ≤ p ∧ p < 65536 := fun i hi => by
      obtain ⟨h1, h2⟩ := hel i (by omega)
      obtain ⟨p, e, _, hwf⟩ := DataW.trod_int Yba.underlying76 h2
      have e1 : IntKind.u16.min = 0 := rfl
      have e2 : IntKind.u16.max = 65535 := rfl
      simp [Lit.wf, e1, e2] at hwf
      simp only [List.cons.injEq, and_true] at e
      exact ⟨p, by rw [h1, e], by omega, by omega⟩
    obtain ⟨f, hf⟩ := choose_lt each
    have hlen : ((List.range len).map f).length = len := by simp
    refine ⟨some a, (List.range len).map f, cap, by rw [hlen], fun i d hi => ?_⟩
    have hil : i < len := by
      have := (List.getElem?_eq_some_iff.1 hi).1
      simpa using this
    have ev : f i = d := by
      rw [List.getElem?_map, List.getElem?_range hil] at hi
      simpa using hi
    obtain ⟨b, off, spot⟩ := a
    have c00 := (hf 0 (by omega)).1
    have hspot : spot = none := by simpa [Addr.add] using World.cell?_spot c00
    subst hspot
    have hb : b < w.heap.size := by
      have := cell_lt c00
      simpa [Addr.add] using this
    obtain ⟨hc, r1, r2⟩ := hf i hil
    rw [ev] at hc r1 r2
    rw [add_plain] at hc
    exact ⟨b, off, rfl, hb, hc, r1, r2⟩
end
end Go.Proofs.Ybulkexohm
