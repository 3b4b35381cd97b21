/-
  Laws of no program's own: copy at elements of several cells; a history's block; a row's cells.
-/
import Derived.Test.YbulkexohmVers
import Derived.Deep.RegionLawGrows
import Derived.Laws.IdiomCopy
namespace Go.Proofs.Ybulkexohm
open Go.RowKit

theorem run_copy_wide {P : Program} (w : World) (dT sT ty elem : TypeId) (b o dLen dCap : Nat) (a : Addr) (sLen sCap size : Nat) (cs : List Value)
    (hu : P.underlying dT = some (.slice elem)) (hs : (P.info? elem).map (·.size) = some size) (hn : cs.length = Nat.min sLen dLen * size)
    (hsrc : ∀ j v, cs[j]? = some v → w.cell? (a.add j) = some v) (hc : ∀ j, j < cs.length → (w.cell? ⟨b, o + j, none⟩).isSome = true) (hf : ∀ j, j < cs.length → w.frozen? ⟨b, o + j, none⟩ = false) (h1 : ∀ v ∈ cs, v.oneCell' = true) :
    (Builtin.copy_ #[dT, sT] ty #[.slice (some ⟨b, o, none⟩) dLen dCap, .slice (some a) sLen sCap]).run P w = .ok (goInt (Nat.min sLen dLen)) (w.setCells b o cs) := by
  have hl := run_loadCells_list (P := P) w a cs hsrc
  have hst := run_storeCells_cells (P := P) b o cs 0 w (fun j hj => by simpa using hc j hj) (fun j hj => by simpa using hf j hj) h1
  cases hq : P.info? elem with
  | none => simp [hq] at hs
  | some i =>
    have hi : i.size = size := by simpa [hq] using hs
    rw [hn] at hl
    simp [Builtin.copy_, run_underlying hu, Builtin.lenOf, Builtin.firstCells, sizeOf, typeInfo, hq, hi, hl, hst]

/-- .. as one step of a region that draws its order. -/
theorem step_copy_wide {P : Program} {ops : Array Oper} {o : Oper} {a : Act} {w : World} {K : Act → World → Prop} {Q : Exit → Act → World → Prop} {E : Prop} (hgd : o.guard = none) (d s : Operand) (dT sT : TypeId)
    (ho : o.op = .call { callee := .builtin .copy, args := #[d, s], argTypes := #[dT, sT] }) (elem : TypeId) (size : Nat) (hu : P.underlying dT = some (.slice elem)) (hsz : (P.info? elem).map (·.size) = some size)
    (b off dLen dCap sLen sCap : Nat) (ad : Addr) (hd : a.eval d = .slice (some ⟨b, off, none⟩) dLen dCap) (hs : a.eval s = .slice (some ad) sLen sCap)
    (cs : List Value) (hn : cs.length = Nat.min sLen dLen * size)
    (hsrc : ∀ j v, cs[j]? = some v → w.cell? (ad.add j) = some v) (hc : ∀ j, j < cs.length → (w.cell? ⟨b, off + j, none⟩).isSome = true) (hf : ∀ j, j < cs.length → w.frozen? ⟨b, off + j, none⟩ = false) (h1 : ∀ v ∈ cs, v.oneCell' = true)
    (h : K (a.put o.dst (goInt (Nat.min sLen dLen))) (w.setCells b off cs)) :
    if Region.wanted o (yielded ops a.tmps) = true then Oper.wp P o a w K Q else E := by
  have hw : Region.wanted o (yielded ops a.tmps) = true := by simp [Region.wanted, hgd]
  rw [if_pos hw]
  have hrun := run_copy_wide (P := P) w dT sT o.type elem b off dLen dCap ad sLen sCap size cs hu hsz hn hsrc hc hf h1
  unfold Oper.wp
  simp [execOp, ho, resolve, invoke, builtin, hd, hs, hrun, Result.andThen]
  exact h

theorem setList_eq : ∀ (vs xs : List Value) (o : Nat), o + vs.length ≤ xs.length → setList xs o vs = xs.take o ++ vs ++ xs.drop (o + vs.length)
  | [], xs, o, _ => by simp [setList]
  | u :: r, xs, o, h => by
    have hl : (u :: r).length = r.length + 1 := rfl
    rw [hl] at h
    rw [setList, setList_eq r (xs.set o u) (o + 1) (by rw [List.length_set]; omega)]
    have e1 : (xs.set o u).take (o + 1) = xs.take o ++ [u] := by
      rw [List.take_succ_eq_append_getElem (by rw [List.length_set]; omega), List.take_set_of_le (Nat.le_refl o), List.getElem_set_self]
    have e2 : (xs.set o u).drop (o + 1 + r.length) = xs.drop (o + 1 + r.length) := by rw [List.drop_set_of_lt (by omega)]
    rw [e1, e2, hl, show o + 1 + r.length = o + (r.length + 1) from by omega]
    simp

/-- The cells of an owned row. -/
theorem olds_at {w : World} {base e size g n cap : Nat} {xs : List Value} (h : w.ownsRow base e size (.slice (some ⟨g, 0, none⟩) n cap) n xs) : ∀ b, some (⟨g, 0, none⟩ : Addr) = some b → ∀ j u, xs[j]? = some u → w.cell? (b.add j) = some u := by
  intro b hb j u hj
  cases hb
  have hlt : j < xs.length := (List.getElem?_eq_some_iff.1 hj).1
  rw [Addr.add_mid', h.cellAt j (by rw [← h.1]; exact hlt), hj]
where
  Addr.add_mid' {b j : Nat} : (⟨b, 0, none⟩ : Addr).add j = ⟨b, j, none⟩ := by unfold Addr.add; split <;> simp_all
end Go.Proofs.Ybulkexohm
