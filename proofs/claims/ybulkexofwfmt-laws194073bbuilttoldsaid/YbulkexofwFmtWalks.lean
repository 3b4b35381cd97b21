/-
  The walks of this seat, I: internal/bytealg.LastIndexByteString (11), strings.LastIndexByte (8), zzs194073bmodel (6).
-/
import Derived.Test.YbulkexofwFmtErrorf
import Derived.Test.YbulkexofwFmtMath
namespace Go.Proofs.YbulkexofwFmt
open Go.RowKit
set_option maxHeartbeats 400000 in
theorem int_eq {k : IntKind} {a b : Int} (h : a = b) : Value.int k a = .int k b := by rw [h]
theorem ret_int {k : IntKind} {a b : Int} (h : a = b) : Ending.returned (.int k a) = .returned (.int k b) := by rw [h]
set_option maxHeartbeats 400000 in
theorem lastString_any (s : ByteArray) (c : Int) (w : World) (hs : s.size ≤ 9223372036854775807) :
    Calls Ybaf.prog 11 #[.string s, .int .u8 c] w fun e w' => e = .returned (.int .i64 (Lib.lastIndexByte s c)) ∧ w' = w := by
  go_enter Ybaf.func11, Ybaf.ntmps11
  go_wp2
  go_loop [5] (fun i => ∃ k : Nat, k ≤ s.size ∧ i = .int .i64 ((k : Int) - 1) ∧ Lib.lastIndexByte s c = Lib.lastIdx s c k) (fun i => (intOf i + 1).toNat)
  case atStart => exact ⟨s.size, Nat.le_refl _, rfl, rfl⟩
  case round =>
    obtain ⟨k, hk, rfl, hl⟩ := hrel
    have HL : Hid (_ = _) := hl
    clear hl
    cases k with
    | zero =>
      go_wp2
      go_ret
      exact ⟨by rw [HL.out]; rfl, rfl⟩
    | succ j =>
      rw [show (((j + 1 : Nat) : Int) - 1) = (j : Int) from by omega]
      have hj : j < s.size := by omega
      go_wp2
      · go_ret
        exact ⟨ret_int (by rw [HL.out, last_hit s c j hj ‹_›]), rfl⟩
      · go_round
        case rel => exact ⟨j, by omega, rfl, by rw [HL.out, last_miss s c j hj ‹_›]⟩
        case measure => simp [intOf]
set_option maxHeartbeats 400000 in
theorem last_any (s : ByteArray) (c : Int) (w : World) (hs : s.size ≤ 9223372036854775807) :
    Calls Ybaf.prog 8 #[.string s, .int .u8 c] w fun e w' => e = .returned (.int .i64 (Lib.lastIndexByte s c)) ∧ w' = w := by
  go_enter Ybaf.func8, Ybaf.ntmps8
  go_wp2_with (go_at_call 11; refine (lastString_any s c _ hs).mono ?_; rintro e w' ⟨rfl, rfl⟩)
  go_ret
  exact ⟨rfl, rfl⟩

/-- What the model answers. -/
def modelOf (s : ByteArray) : Value := match posOf s with
  | some (i, u) => .tuple #[.agg #[.string (s.extract 0 i), .int .u32 u], .bool true]
  | none => .tuple #[.agg #[.string ⟨#[]⟩, .int .u32 0], .bool false]
theorem modelOf_none {s : ByteArray} (h : posOf s = none) : modelOf s = .tuple #[.agg #[.string ⟨#[]⟩, .int .u32 0], .bool false] := by
  unfold modelOf; rw [h]
theorem modelOf_some {s : ByteArray} {i u : Nat} (h : posOf s = some (i, u)) : modelOf s = .tuple #[.agg #[.string (s.extract 0 i), .int .u32 u], .bool true] := by
  unfold modelOf; rw [h]

set_option maxHeartbeats 1000000 in
theorem model_any (s : ByteArray) (w : World) (hs : s.size ≤ 9223372036854775806) :
    Calls Ybaf.prog 6 #[.string s] w fun e w' => e = .returned (modelOf s) ∧ Below w.heap.size w w' := by
  go_enter Ybaf.func6, Ybaf.ntmps6
  go_wp2
  go_loop [4, 5] (fun i t => i = .int .i64 (-1) ∧ ∃ k : Nat, k ≤ s.size ∧ t = .int .i64 ((k : Int) - 1) ∧ Lib.lastIndexByte s 58 = Lib.lastIdx s 58 k) (fun _ t => (intOf t + 1).toNat)
  case atStart => exact ⟨rfl, s.size, Nat.le_refl _, rfl, rfl⟩
  case round =>
    obtain ⟨rfl, k, hk, rfl, hl⟩ := hrel
    have HL : Hid (_ = _) := hl
    clear hl
    cases k with
    | zero =>
      have H0 : Hid (modelOf s = _) := modelOf_none (posOf_no s (-1) HL.out (by omega))
      go_wp2
      exact bodyPost_ret (v := .tuple #[.agg #[.string ⟨#[]⟩, .int .u32 0], .bool false]) (by simp [results, Ybaf.results6, go_sem]) rfl ⟨by rw [H0.out], (Below.refl _ _).alloc (Nat.le_refl _) _⟩
    | succ j =>
      rw [show (((j + 1 : Nat) : Int) - 1) = (j : Int) from by omega]
      have hj : j < s.size := by omega
      by_cases hc : ((s[j].toNat : Int) == 58) = true
      · have HI : Hid (Lib.lastIndexByte s 58 = (j : Int)) := by rw [HL.out]; exact last_hit s 58 j hj hc
        clear HL
        by_cases hj0 : j = 0
        · subst hj0
          have H0 : Hid (modelOf s = _) := modelOf_none (posOf_no s _ HI.out (by omega))
          go_wp2
          exact bodyPost_ret (v := .tuple #[.agg #[.string ⟨#[]⟩, .int .u32 0], .bool false]) (by simp [results, Ybaf.results6, go_sem]) rfl ⟨by rw [H0.out], (Below.refl _ _).alloc (Nat.le_refl _) _⟩
        · have hj1 : 0 < j := by omega
          clear hj0
          have HP : Hid (posOf s = _) := posOf_at s j HI.out hj1
          by_cases hz : j + 1 = s.size
          · have H0 : Hid (modelOf s = _) := modelOf_none (by rw [HP.out, numAt_nil s j (by rw [ByteArray.size_extract]; omega)]; rfl)
            go_wp2
            exact bodyPost_ret (v := .tuple #[.agg #[.string ⟨#[]⟩, .int .u32 0], .bool false]) (by simp [results, Ybaf.results6, go_sem]) rfl ⟨by rw [H0.out], (Below.refl _ _).alloc (Nat.le_refl _) _⟩
          · have HN : Hid (numAt s j = _) := numAt_from s j (by rw [ByteArray.size_extract]; omega)
            have hts : (s.extract (j + 1) s.size).size ≤ 9223372036854775806 := by rw [ByteArray.size_extract]; omega
            go_wp2
            generalize s.extract (j + 1) s.size = t at *
            clear hz
            go_loop [7, 8] (fun v i => ∃ (k acc : Nat), k ≤ t.size ∧ acc ≤ 4294967295 ∧ v = .int .u64 acc ∧ i = .int .i64 k ∧ Hid (numFrom 0 t.data.toList = numFrom acc (t.data.toList.drop k))) (fun _ i => t.size - (intOf i).toNat)
            case atStart => exact ⟨0, 0, Nat.zero_le _, by omega, rfl, rfl, rfl⟩
            case round =>
              obtain ⟨k, acc, hkt, hacc, rfl, rfl, HR⟩ := hrel
              by_cases hlt : k < t.size
              · have HD : Hid (_ = _) := drop_at t k hlt
                go_wp2
                · exact bodyPost_ret (v := .tuple #[.agg #[.string ⟨#[]⟩, .int .u32 0], .bool false]) (by simp [results, Ybaf.results6, go_sem]) rfl ⟨by rw [modelOf_none (by rw [HP.out, HN.out, HR.out, HD.out, numFrom_bad _ _ _ (by omega)]; rfl)], (Below.refl _ _).alloc (Nat.le_refl _) _⟩
                · exact bodyPost_ret (v := .tuple #[.agg #[.string ⟨#[]⟩, .int .u32 0], .bool false]) (by simp [results, Ybaf.results6, go_sem]) rfl ⟨by rw [modelOf_none (by rw [HP.out, HN.out, HR.out, HD.out, numFrom_step _ _ _ hacc (by omega) (by omega), if_pos (by omega)]; rfl)], (Below.refl _ _).alloc (Nat.le_refl _) _⟩
                · go_round
                  case rel => exact ⟨k + 1, acc * 10 + (t[k].toNat - 48), by omega, by omega, int_eq (by omega), int_eq (by omega), by rw [HR.out, HD.out, numFrom_step _ _ _ hacc (by omega) (by omega), if_neg (by omega)]; exact rfl⟩
                  case measure => simp [intOf]; omega
                · exact bodyPost_ret (v := .tuple #[.agg #[.string ⟨#[]⟩, .int .u32 0], .bool false]) (by simp [results, Ybaf.results6, go_sem]) rfl ⟨by rw [modelOf_none (by rw [HP.out, HN.out, HR.out, HD.out, numFrom_bad _ _ _ (by omega)]; rfl)], (Below.refl _ _).alloc (Nat.le_refl _) _⟩
              · go_wp2
                exact bodyPost_ret (v := .tuple #[.agg #[.string (s.extract 0 j), .int .u32 acc], .bool true]) (by simp [results, Ybaf.results6, go_sem]) rfl ⟨by rw [modelOf_some (by rw [HP.out, HN.out, HR.out, drop_all t k (by omega)]; rfl)], (Below.refl _ _).alloc (Nat.le_refl _) _⟩
      · have hc' : ((s[j].toNat : Int) == 58) = false := by simpa using hc
        clear hc
        go_wp2
        go_round
        case rel => exact ⟨rfl, j, by omega, rfl, by rw [HL.out, last_miss s 58 j hj hc']⟩
        case measure => simp [intOf]
end Go.Proofs.YbulkexofwFmt
