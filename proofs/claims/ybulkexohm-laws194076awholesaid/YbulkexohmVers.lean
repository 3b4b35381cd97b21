/-
  Rows of versions written cell by cell, and the walk of zzs194076avers (5).
-/
import Derived.Test.YbulkexohmExcl
import Derived.BigRegion
namespace Go.Proofs.Ybulkexohm
open Go.RowKit

/-! ### A store of several cells into a row -/
def setList (xs : List Value) : Nat → List Value → List Value
  | _, [] => xs
  | o, u :: r => setList (xs.set o u) (o + 1) r
theorem setList_right : ∀ (vs a xs : List Value) (o : Nat), setList (a ++ xs) (a.length + o) vs = a ++ setList xs o vs
  | [], _, _, _ => rfl
  | u :: r, a, xs, o => by
    rw [setList, setList, List.set_append_right _ _ (by omega), Nat.add_sub_cancel_left, Nat.add_assoc]
    exact setList_right r a (xs.set o u) (o + 1)
theorem setList_vcells : ∀ (l : List Ver) (k : Nat) (v : Ver), k < l.length → setList (vcells l) (k * 10) v.cells = vcells (l.set k v)
  | x :: r, 0, v, _ => by simp [vcells, Ver.cells, setList]
  | x :: r, k + 1, v, h => by
    have e : (k + 1) * 10 = x.cells.length + k * 10 := by rw [Ver.cells_length]; omega
    have ih := setList_vcells r k v (by simpa using h)
    unfold vcells at ih ⊢
    rw [List.flatMap_cons, e, setList_right, ih, List.set_cons_succ, List.flatMap_cons]
theorem own_setCells {base e size g n cap : Nat} : ∀ (vs : List Value) (o : Nat) (w : World) (xs : List Value), w.ownsRow base e size (.slice (some ⟨g, 0, none⟩) n cap) n xs →
    (w.setCells g o vs).ownsRow base e size (.slice (some ⟨g, 0, none⟩) n cap) n (setList xs o vs)
  | [], _, _, _, h => h
  | u :: r, o, w, xs, h => own_setCells r (o + 1) (w.setCell ⟨g, o, none⟩ u) (xs.set o u) (h.stored o u).1
theorem vrow_store {w : World} {g cap : Nat} {l : List Ver} (h : VRow w (.slice (some ⟨g, 0, none⟩) l.length cap) l) (k : Nat) (v : Ver) (hk : k < l.length) :
    VRow (w.setCells g (k * 10) v.cells) (.slice (some ⟨g, 0, none⟩) l.length cap) (l.set k v) := by
  have := own_setCells v.cells (k * 10) w _ h
  rw [setList_vcells l k v hk] at this
  show World.ownsRow _ 0 82 10 _ (l.set k v).length _
  rw [List.length_set]
  exact this

/-- The five cells of a version as the law's input has it. -/
structure SrcAt (w : World) (g o : Nat) (v : Ver) : Prop where
  c0 : w.cell? ⟨g, o, none⟩ = some (.int .u64 v.ts)
  c1 : w.cell? ⟨g, o + 1, none⟩ = some (.int .u64 v.sq)
  c2 : w.cell? ⟨g, o + 2, none⟩ = some (.string v.sc)
  c3 : w.cell? ⟨g, o + 3, none⟩ = some (.string v.tb)
  c4 : w.cell? ⟨g, o + 4, none⟩ = some (.bool v.dr)
def zver : Ver := ⟨0, 0, ⟨#[]⟩, ⟨#[]⟩, false⟩
theorem info82 : (Yba.prog.info? 82).map (fun i => (i.zero, i.size, i.bytes)) = some (some zver.val, 10, 96) := by kernel_rfl

theorem zver_get (c : Nat) (h : c < 10) : zver.val.cells[c]! = zver.cells[c] := by
  match c, h with
  | 0, _ => rfl
  | 1, _ => rfl
  | 2, _ => rfl
  | 3, _ => rfl
  | 4, _ => rfl
  | 5, _ => rfl
  | 6, _ => rfl
  | 7, _ => rfl
  | 8, _ => rfl
  | 9, _ => rfl
theorem made_vers (n : Nat) : (madeCells zver.val.cells (n * 10)).toList = vcells (List.replicate n zver) := by
  apply List.ext_getElem?
  intro j
  have ej : j = j / 10 * 10 + j % 10 := by omega
  conv => rhs; rw [ej]
  rw [vcells_get _ _ _ (by omega), List.getElem?_replicate]
  have hs : zver.val.cells.size = 10 := rfl
  by_cases hj : j < n * 10
  · rw [if_pos (by omega)]
    have h2 : j % 10 < 10 := by omega
    simp only [madeCells, Array.toList_map, Array.toList_range, List.getElem?_map, List.getElem?_range hj, Option.map_some, Option.bind_some, hs]
    rw [zver_get _ h2, List.getElem?_eq_getElem (by rw [Ver.cells_length]; omega)]
    rfl
  · rw [if_neg (by omega)]
    simp only [madeCells, Array.toList_map, Array.toList_range, List.getElem?_map, Option.bind_none]
    rw [List.getElem?_eq_none (by simp; omega)]
    rfl
theorem srcAt_below {w wr : World} {g o : Nat} {v : Ver} (h : SrcAt w g o v) (hb : Below w.heap.size w wr) (hg : g < w.heap.size) : SrcAt wr g o v :=
  ⟨(hb.cell (p := ⟨g, o, none⟩) hg).trans h.c0, (hb.cell (p := ⟨g, o + 1, none⟩) hg).trans h.c1, (hb.cell (p := ⟨g, o + 2, none⟩) hg).trans h.c2, (hb.cell (p := ⟨g, o + 3, none⟩) hg).trans h.c3, (hb.cell (p := ⟨g, o + 4, none⟩) hg).trans h.c4⟩
/-- Behind 'k' rounds. -/
def part (M : List Ver) (k : Nat) : List Ver := M.take k ++ List.replicate (M.length - k) zver
theorem part_length (M : List Ver) (k : Nat) (h : k ≤ M.length) : (part M k).length = M.length := by simp [part]; omega
theorem part_zero (M : List Ver) : part M 0 = List.replicate M.length zver := by simp [part]
theorem part_end (M : List Ver) : part M M.length = M := by simp [part]
theorem part_get (M : List Ver) (k : Nat) (h : k < M.length) : (part M k)[k]? = some zver := by
  unfold part
  rw [List.getElem?_append_right (by simp; omega), List.getElem?_replicate, if_pos (by simp; omega)]
theorem part_set (M : List Ver) (k : Nat) (v : Ver) (h : M[k]? = some v) : (part M k).set k v = part M (k + 1) := by
  have hk : k < M.length := (List.getElem?_eq_some_iff.1 h).1
  have hv : M[k] = v := (List.getElem?_eq_some_iff.1 h).2
  have hl : (M.take k).length = k := by simp; omega
  unfold part
  rw [List.set_append_right _ _ (by omega), hl, Nat.sub_self]
  obtain ⟨m, hm⟩ : ∃ m, M.length - k = m + 1 := ⟨M.length - k - 1, by omega⟩
  have hm' : M.length - (k + 1) = m := by omega
  rw [hm, hm', List.replicate_succ, List.set_cons_zero, List.take_succ_eq_append_getElem hk, hv]
  simp

theorem part_at {w : World} {g cap k : Nat} {M : List Ver} (h : w.ownsRow 0 82 10 (.slice (some ⟨g, 0, none⟩) M.length cap) M.length (vcells (part M k))) (hk : k ≤ M.length) (hlt : k < M.length) : VerAt w g (k * 10) zver := by
  have h' : VRow w (.slice (some ⟨g, 0, none⟩) (part M k).length cap) (part M k) := by
    show World.ownsRow w 0 82 10 _ (part M k).length _
    rw [part_length M k hk]
    exact h
  exact h'.at (part_get M k hlt)
theorem vrow_part {w : World} {g cap k : Nat} {M : List Ver} {v : Ver} (h : VRow w (.slice (some ⟨g, 0, none⟩) M.length cap) (part M k)) (hk : k ≤ M.length) (hv : M[k]? = some v) :
    VRow (w.setCells g (k * 10) v.cells) (.slice (some ⟨g, 0, none⟩) M.length cap) (part M (k + 1)) := by
  have hlt : k < M.length := (List.getElem?_eq_some_iff.1 hv).1
  have e := part_length M k hk
  have h' : VRow w (.slice (some ⟨g, 0, none⟩) (part M k).length cap) (part M k) := by rw [e]; exact h
  have R := vrow_store h' k v (by omega)
  rw [part_set M k v hv, e] at R
  exact R
theorem ver_setCells (w : World) (g o : Nat) (v : Ver) : w.setCells g o v.cells = (((((((((w.setCell ⟨g, o, none⟩ (.int .u64 v.ts)).setCell ⟨g, o + 1, none⟩ (.int .u64 v.sq)).setCell ⟨g, o + 2, none⟩ (.string v.sc)).setCell ⟨g, o + 3, none⟩ (.string v.tb)).setCell ⟨g, o + 4, none⟩ (.pointer none)).setCell ⟨g, o + 5, none⟩ (.bool v.dr)).setCell ⟨g, o + 6, none⟩ (.bool false)).setCell ⟨g, o + 7, none⟩ (.bool false)).setCell ⟨g, o + 8, none⟩ (.int .u64 0)).setCell ⟨g, o + 9, none⟩ (.slice none 0 0) := rfl
theorem below_setCells {B : Nat} {w : World} {g : Nat} : ∀ (vs : List Value) (o : Nat) {wr : World}, Below B w wr → B ≤ g → Below B w (wr.setCells g o vs)
  | [], _, _, h, _ => h
  | u :: r, o, _, h, hg => below_setCells r (o + 1) (h.setCell (p := ⟨g, o, none⟩) hg u) hg
set_option maxRecDepth 100000 in
set_option maxHeartbeats 4000000 in
theorem avers_any (vb vo cap : Nat) (L : List Ver) (w : World) (hL : L.length ≤ 140737488355328) (hvb : vb < w.heap.size) (hsrc : ∀ i v, L[i]? = some v → SrcAt w vb (vo + i * 5) v) :
    Calls Yba.prog 5 #[.slice (some ⟨vb, vo, none⟩) L.length cap] w fun e w' =>
      ∃ g, e = .returned (.slice (some ⟨g, 0, none⟩) (L.take 8).length (L.take 8).length) ∧ VRow w' (.slice (some ⟨g, 0, none⟩) (L.take 8).length (L.take 8).length) (L.take 8) ∧ w.heap.size ≤ g ∧ Below w.heap.size w w' := by
  obtain ⟨i0, hi, hz0, hz1, hz2⟩ := info_parts info82
  have HS : Hid (∀ i v, L[i]? = some v → SrcAt w vb (vo + i * 5) v) := hsrc
  clear hsrc
  have HM : Hid (∀ i v, (L.take 8)[i]? = some v → L[i]? = some v) := fun i v h => by
    rw [List.getElem?_take] at h
    split at h
    · exact h
    · cases h
  have hM : (L.take 8).length = min 8 L.length := List.length_take
  generalize L.take 8 = M at *
  have HZ := made_vers M.length
  have HZ' : Hid (_ = _) := HZ
  clear HZ
  by_cases h8 : L.length ≤ 8
  focus
    have hM1 : M.length ≤ 8 := by omega
    have hM2 : M.length ≤ L.length := by omega
    have HME : Hid (M.length = L.length) := (by omega : M.length = L.length)
    clear hM
    go_enter Yba.func5, Yba.ntmps5
    go_wp2_with (at_make; refine wpList_make_full _ rfl (.tmp 10) (.tmp 10) 71 rfl 0 82 i0 zver.val 10 Yba.underlying71 hi hz0 hz1 .i64 .i64 _ _ M.length rfl rfl (by rw [HME.out]) (by rw [HME.out]) (by rw [hz2]; omega) (by unfold maxLen; omega) (Nat.zero_le _) ?_; intro w1 hown1 hgrow1)
  rotate_left
  focus
    have hM1 : M.length ≤ 8 := by omega
    have hM2 : M.length ≤ L.length := by omega
    have HME : Hid (M.length = 8) := (by omega : M.length = 8)
    clear hM
    go_enter Yba.func5, Yba.ntmps5
    go_wp2_with (at_make; refine wpList_make_full _ rfl (.tmp 10) (.tmp 10) 71 rfl 0 82 i0 zver.val 10 Yba.underlying71 hi hz0 hz1 .i64 .i64 _ _ M.length rfl rfl (by rw [HME.out]; rfl) (by rw [HME.out]; rfl) (by rw [hz2]; omega) (by unfold maxLen; omega) (Nat.zero_le _) ?_; intro w1 hown1 hgrow1)
  all_goals
    have HO : Hid (VRow w1 (.slice (some ⟨w.heap.size, 0, none⟩) M.length M.length) (part M 0)) := by
      show World.ownsRow w1 0 82 10 _ (part M 0).length (vcells (part M 0))
      rw [part_length M 0 (Nat.zero_le _), part_zero, ← HZ'.out]
      exact hown1
    have HB : Hid (Below w.heap.size w w1) := (Below.refl _ w).grown hgrow1 (Nat.le_refl _) (fun k hk => by cases hk)
    clear hown1 hgrow1
    go_loopw [5] (fun i wr => ∃ k : Nat, k ≤ M.length ∧ i = .int .i64 k ∧ VRow wr (.slice (some ⟨w.heap.size, 0, none⟩) M.length M.length) (part M k) ∧ Below w.heap.size w wr) (fun i _ => M.length - (intOf i).toNat)
    case atStart => exact ⟨0, Nat.zero_le _, rfl, HO.out, HB.out⟩
    case round =>
      obtain ⟨k, hk, rfl, hown, hb⟩ := hrel
      by_cases hlt : k < M.length
      · obtain ⟨v, hv⟩ : ∃ v, M[k]? = some v := ⟨_, List.getElem?_eq_getElem hlt⟩
        have hs := HS.out k v (HM.out k v hv)
        have HV : Hid (_ = _) := hv
        clear hv
        obtain ⟨s0, s1, s2, s3, s4⟩ := srcAt_below hs hb hvb
        have hown' := hown
        unfold VRow at hown'
        rw [part_length M k hk] at hown'
        have hF : ∀ j, wr.frozen? ⟨w.heap.size, j, none⟩ = false := fun j => hown'.frozenAt j
        obtain ⟨c0, c1, c2, c3, c4, c5, c6, c7, c8, c9⟩ := part_at hown' hk hlt
        clear hown' hs
        have hk8 : k < 8 := by omega
        have hkL : k < L.length := by omega
        have R := vrow_part hown hk (HV.out)
        have RB : Below w.heap.size w (wr.setCells w.heap.size (k * 10) v.cells) := below_setCells v.cells _ hb (Nat.le_refl _)
        rw [ver_setCells] at R RB
        have HR : Hid (_ ∧ _) := And.intro R RB
        clear R RB
        go_wp2
        go_region
        go_wp2
        go_roundw
        case rel => exact ⟨k + 1, by omega, int_eq (by omega), World.ownsRow.drew HR.out.1, HR.out.2.drew⟩
        case measure => simp [intOf]; omega
      · have ek : k = M.length := by omega
        subst ek
        have HO2 : Hid (VRow wr (.slice (some ⟨w.heap.size, 0, none⟩) M.length M.length) M) := by have := hown; rw [part_end] at this; exact this
        clear hown hk hlt
        first
          | have hge : 8 ≤ M.length := by have := HME.out; omega
          | have hge : L.length ≤ M.length := by have := HME.out; omega
        go_wp2
        go_ret
        exact ⟨w.heap.size, rfl, HO2.out, Nat.le_refl _, hb⟩
end Go.Proofs.Ybulkexohm
