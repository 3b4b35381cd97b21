/-
  The walks of this seat, III: zzs194073bdec (7): the numeral, the last digit first, padded, turned about.
-/
import Derived.Test.YbulkexofwFmtParse
import Derived.Test.YbulkexofwFmtDecMath
import Derived.Laws.OwnMore
namespace Go.Proofs.YbulkexofwFmt
open Go.RowKit

def cells (l : List UInt8) : List Value := l.map fun b => Value.int .u8 b.toNat
theorem cells_snoc (l : List UInt8) (d : UInt8) : cells l ++ [Value.int .u8 d.toNat] = cells (l ++ [d]) := by simp [cells]
theorem info5 : (Ybaf.prog.info? 5).map (fun i => (i.zero, i.size, i.bytes)) = some (some (.int .u8 0), 1, 1) := by kernel_rfl

theorem one_at (w : World) (x : Value) (t : TypeId) : ∀ j u, [x][j]? = some u → (w.alloc (.cells #[x] t)).cell? ((⟨w.heap.size, 0, none⟩ : Addr).add j) = some u := by
  intro j u hj
  match j, hj with
  | 0, hj => simp at hj; subst hj; simp [Addr.add]
theorem one_cell {k : IntKind} (x : Int) : ∀ u ∈ [Value.int k x], u.oneCell' = true := by
  intro u hu; simp at hu; subst hu; rfl
theorem below_step {B : Nat} {w wr w1 : World} {v : Value} {n : Nat} {xs : List Value} {o : Obj} (hb : Below B w wr) (hB : B ≤ w.heap.size) (hown : wr.ownsRow B 5 1 v n xs) (hgrow : (wr.alloc o).grownBy w1 v.ownBlock) : Below B w w1 :=
  (hb.alloc (Nat.le_trans hB hb.size) o).grown hgrow (by have := hb.size; simp; omega) (fun k hk => (hown.lt k hk).1)

theorem cells_length (l : List UInt8) : (cells l).length = l.length := by simp [cells]
theorem own_len {w : World} {B n m : Nat} {v : Value} {l : List UInt8} (h : w.ownsRow B 5 1 v n (cells l)) (e : n = m) : w.ownsRow B 5 1 v m (cells l) := e ▸ h

theorem own_form {w : World} {B n : Nat} {v : Value} {xs : List Value} (h : w.ownsRow B 5 1 v n xs) (hn : 0 < n) : ∃ g cap, v = .slice (some ⟨g, 0, none⟩) n cap ∧ B ≤ g := by
  rcases h.2 with ⟨_, h0⟩ | ⟨g, cap, cur, hv, hg, _⟩
  · omega
  · exact ⟨g, cap, hv, hg⟩

theorem cells_get (l : List UInt8) (j : Nat) : (cells l)[j]? = l[j]?.map fun b => Value.int .u8 b.toNat := by simp [cells]
theorem swap_cells {w : World} {B g cap q r : Nat} {L : List UInt8} (h : w.ownsRow B 5 1 (.slice (some ⟨g, 0, none⟩) L.length cap) L.length (cells (mid L q))) (hqr : q + r + 1 = L.length) (hlt : q < r) :
    w.cell? ⟨g, q, none⟩ = some (.int .u8 (L.getD q 0).toNat) ∧ w.cell? ⟨g, r, none⟩ = some (.int .u8 (L.getD r 0).toNat) := by
  have er : r = L.length - 1 - q := by omega
  rw [h.cellAt q (by omega), h.cellAt r (by omega), cells_get, cells_get, mid_left L q (by omega), er, mid_right L q (by omega)]
  exact ⟨rfl, rfl⟩
theorem swap_own {w : World} {B g cap q r : Nat} {L : List UInt8} (h : w.ownsRow B 5 1 (.slice (some ⟨g, 0, none⟩) L.length cap) L.length (cells (mid L q))) (hqr : q + r + 1 = L.length) (hlt : q < r) :
    ((w.setCell ⟨g, q, none⟩ (.int .u8 (L.getD r 0).toNat)).setCell ⟨g, r, none⟩ (.int .u8 (L.getD q 0).toNat)).ownsRow B 5 1 (.slice (some ⟨g, 0, none⟩) L.length cap) L.length (cells (mid L (q + 1))) := by
  have h2 := ((h.stored q (.int .u8 (L.getD r 0).toNat)).1.stored r (.int .u8 (L.getD q 0).toNat)).1
  have er : r = L.length - 1 - q := by omega
  have e : cells (mid L (q + 1)) = ((cells (mid L q)).set q (.int .u8 (L.getD r 0).toNat)).set r (.int .u8 (L.getD q 0).toNat) := by
    rw [mid_step L q (by omega), ← er]
    simp [cells, List.map_set]
  rw [e]
  exact h2
theorem rev_string {w : World} {B g cap q : Nat} {L : List UInt8} (h : w.ownsRow B 5 1 (.slice (some ⟨g, 0, none⟩) L.length cap) L.length (cells (mid L q))) (h1 : L.length ≤ 2 * q + 1) (h2 : 2 * q ≤ L.length) :
    (convert 39 9 (.slice (some ⟨g, 0, none⟩) L.length cap)).run Ybaf.prog w = .ok (.string ⟨L.reverse.toArray⟩) w := by
  rw [mid_end L q h1 h2] at h
  have := run_convert_bytes_back (P := Ybaf.prog) w 39 9 5 ⟨g, 0, none⟩ cap L.reverse Ybaf.underlying39 Ybaf.underlying5 Ybaf.underlying9 (fun j hj => by
    rw [List.length_reverse] at hj
    have := h.cellAt j (by omega)
    rw [show (⟨g, 0, none⟩ : Addr).add j = ⟨g, j, none⟩ from by simp [Addr.add]; intro e; rw [e], this, cells_get, List.getElem?_eq_getElem (by simpa using hj)]
    rfl)
  rwa [List.length_reverse] at this

set_option maxHeartbeats 3200000 in
theorem dec_any (n p : Nat) (w : World) (hn : n ≤ 4294967295) (hp : p ≤ 3) :
    Calls Ybaf.prog 7 #[.int .u32 n, .int .i64 p] w fun e w' => (∃ l, Tail n p l ∧ e = .returned (.string ⟨l.reverse.toArray⟩)) ∧ Below w.heap.size w w' := by
  obtain ⟨i0, hi, hz0, hz1, hz2⟩ := info_parts info5
  by_cases h0 : n = 0
  focus
    have h0' : ((n : Int) == 0) = true := by simp [h0]
    have HS : Hid (Dec n n [48]) := by show Dec n n [48]; rw [h0]; exact dec_zero
    clear h0
    go_enter Ybaf.func7, Ybaf.ntmps7
    go_wp2_with (at_builtin; refine wpList_append_own _ rfl (.tmp 12) (.tmp 13) 39 rfl w.heap.size 5 i0 (.int .u8 0) 1 1 Ybaf.underlying39 hi hz0 hz1 hz2 rfl (by decide) (.slice none 0 0) 0 [] rfl ((World.ownsRow_nil w w.heap.size 5 1).alloc _) ⟨w.heap.size, 0, none⟩ 1 1 [.int .u8 48] rfl rfl (one_at _ _ _) (one_cell _) (by unfold maxLen; omega) (by omega) (by simp) ?_; intro v' w1 hown' hgrow _)
    have HO : Hid (w1.ownsRow w.heap.size 5 1 v' 1 (cells [48])) := hown'
    have HB : Hid (Below w.heap.size w w1) := below_step (Below.refl _ w) (Nat.le_refl _) (World.ownsRow_nil w w.heap.size 5 1) hgrow
    clear hown' hgrow
  rotate_left
  focus
    have HS : Hid (Dec n n []) := dec_start n (by omega)
    have h0' : ((n : Int) == 0) = false := by simp [h0]
    clear h0
    go_enter Ybaf.func7, Ybaf.ntmps7
    go_wp2
  all_goals
    go_loopw [0, 5] (fun nv v wr => ∃ (m : Nat) (l : List UInt8), nv = .int .u32 m ∧ Dec n m l ∧ wr.ownsRow w.heap.size 5 1 v l.length (cells l) ∧ Below w.heap.size w wr) (fun nv _ _ => (intOf nv).toNat)
    case atStart => first | exact ⟨n, [48], rfl, HS.out, HO.out, HB.out⟩ | exact ⟨n, [], rfl, HS.out, World.ownsRow_nil _ _ _ _, Below.refl _ _⟩
    case round =>
      obtain ⟨m, l, rfl, hdec, hown, hb⟩ := hrel
      have hmn := hdec.le
      by_cases hm : 0 < m
      · have hlen := dec_len hdec hn hm
        have HD : Hid (Dec n (m / 10) (l ++ [dig m])) := dec_step hdec hn hm
        go_wp2_with (at_builtin; refine wpList_append_own _ rfl (.tmp 17) (.tmp 22) 39 rfl w.heap.size 5 i0 (.int .u8 0) 1 1 Ybaf.underlying39 hi hz0 hz1 hz2 rfl (by decide) _ _ _ rfl (hown.alloc _) ⟨wr.heap.size, 0, none⟩ 1 1 [.int .u8 (48 + (m : Int) % 10)] rfl rfl (one_at _ _ _) (one_cell _) (by unfold maxLen; omega) (by omega) (by have := hb.size; simp; omega) ?_; intro v' w2 hown' hgrow _)
        have HB' := below_step hb (Nat.le_refl _) hown hgrow
        rw [show (48 + (m : Int) % 10) = ((dig m).toNat : Int) from by rw [dig_nat]; omega, cells_snoc] at hown'
        go_roundw
        case rel => exact ⟨m / 10, l ++ [dig m], int_eq (by omega), HD.out, own_len hown' (by simp), HB'⟩
        case measure => simp [intOf]; omega
      · have HT : Hid (∀ p, Tail n p (l ++ List.replicate p 48)) := by
          have e : m = 0 := by omega
          subst e
          exact dec_end hdec
        have hlen := hdec.short
        clear hdec
        go_wp2
        go_loopw [5, 6] (fun v i wr => ∃ k : Nat, k ≤ p ∧ i = .int .i64 k ∧ wr.ownsRow w.heap.size 5 1 v (l ++ List.replicate k 48).length (cells (l ++ List.replicate k 48)) ∧ Below w.heap.size w wr) (fun _ i _ => p - (intOf i).toNat)
        case atStart => exact ⟨0, Nat.zero_le _, rfl, by simpa using hown, hb⟩
        case round =>
          obtain ⟨k, hk, rfl, hown2, hb2⟩ := hrel
          clear hown hb
          by_cases hlt : k < p
          · have hl2 : (l ++ List.replicate k 48).length ≤ 13 := by simp; omega
            go_wp2_with (at_builtin; refine wpList_append_own _ rfl (.tmp 31) (.tmp 32) 39 rfl w.heap.size 5 i0 (.int .u8 0) 1 1 Ybaf.underlying39 hi hz0 hz1 hz2 rfl (by decide) _ _ _ rfl (hown2.alloc _) ⟨wr.heap.size, 0, none⟩ 1 1 [.int .u8 48] rfl rfl (one_at _ _ _) (one_cell _) (by unfold maxLen; omega) (by omega) (by have := hb2.size; simp; omega) ?_; intro v' w2 hown' hgrow _)
            have HB' := below_step hb2 (Nat.le_refl _) hown2 hgrow
            have e48 : cells (l ++ List.replicate k 48) ++ [Value.int .u8 48] = cells (l ++ List.replicate (k + 1) 48) := by
              rw [List.replicate_succ', ← List.append_assoc]; exact cells_snoc _ 48
            rw [e48] at hown'
            go_roundw
            case rel => exact ⟨k + 1, by omega, int_eq (by omega), own_len hown' (by simp; omega), HB'⟩
            case measure => simp [intOf]; omega
          · have HT2 : Hid (Tail n p (l ++ List.replicate p 48)) := HT.out p
            have ek : k = p := by omega
            subst ek
            generalize l ++ List.replicate k 48 = L at *
            have hL0 : 0 < L.length := List.length_pos_iff.2 HT2.out.1
            have hL1 : L.length ≤ 13 := by have := HT2.out.2.2.2; omega
            obtain ⟨g, cap, rfl, hg⟩ := own_form hown2 hL0
            clear HT hlt hk
            go_wp2
            go_loopw [7, 8] (fun lv rv wr => ∃ k r : Nat, k + r + 1 = L.length ∧ k ≤ r + 1 ∧ lv = .int .i64 k ∧ rv = .int .i64 r ∧ wr.ownsRow w.heap.size 5 1 (.slice (some ⟨g, 0, none⟩) L.length cap) L.length (cells (mid L k)) ∧ Below w.heap.size w wr) (fun lv _ _ => L.length - (intOf lv).toNat)
            case atStart => exact ⟨0, L.length - 1, by omega, by omega, rfl, int_eq (by omega), by rw [mid_zero]; exact hown2, hb2⟩
            case round =>
              obtain ⟨q, r, hqr, hq1, rfl, rfl, hown3, hb3⟩ := hrel
              by_cases hlt : q < r
              · obtain ⟨hc1, hc2⟩ := swap_cells hown3 hqr hlt
                have hf1 := hown3.frozenAt q
                have hf2 := hown3.frozenAt r
                have HQ : Hid (q + r + 1 = L.length) := hqr
                have hqL : q < L.length := by omega
                have hrL : r < L.length := by omega
                clear hqr
                go_wp2
                go_roundw
                case rel => exact ⟨q + 1, r - 1, by have := HQ.out; omega, by omega, int_eq (by omega), int_eq (by omega), by have := swap_own hown3 HQ.out hlt; simpa [hqL, hrL] using this, (hb3.setCell hg _).setCell hg _⟩
                case measure => simp [intOf]; omega
              · have hconv := rev_string hown3 (by omega) (by omega)
                have HQ : Hid (q + r + 1 = L.length) := hqr
                clear hqr
                go_wp2
                go_ret
                exact ⟨⟨L, HT2.out, rfl⟩, hb3⟩
end Go.Proofs.YbulkexofwFmt
