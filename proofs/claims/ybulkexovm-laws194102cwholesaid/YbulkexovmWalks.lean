/-
  The walks of this seat: abs (12), gcd (10), the step count (13), the binary gcd (11).
-/
import Derived.Test.YbulkexovmChecked
import Derived.Test.YbulkexovmMath
import Derived.WalkKit
import Derived.RegionTactic
import Derived.Deep.QuietTactic
import Derived.BigQuiet
import Derived.WalkSmall
namespace Go.Proofs.Ybulkexovm
open Go.RowKit
theorem int_eq {k : IntKind} {a b : Int} (h : a = b) : Value.int k a = .int k b := by rw [h]
theorem ret_int {k : IntKind} {a b : Int} (h : a = b) : Ending.returned (.int k a) = .returned (.int k b) := by rw [h]
theorem wrap_neg (x : Int) (h0 : -9223372036854775808 ≤ x) (hx : x < 0) : IntKind.u64.wrap (-IntKind.u64.wrap x) = x.natAbs := by
  simp [IntKind.wrap, IntKind.signed, IntKind.bits]
  omega
set_option maxHeartbeats 400000 in
theorem abs_any (x : Int) (w : World) (h0 : -9223372036854775808 ≤ x) (h1 : x ≤ 9223372036854775807) :
    Calls Yba.prog 12 #[.int .i64 x] w fun e w' => e = .returned (.int .u64 x.natAbs) ∧ w' = w := by
  by_cases hx : x < 0
  · have H := wrap_neg x h0 hx
    have HW : Hid (_ = _) := H
    clear H
    go_enter Yba.func12, Yba.ntmps12
    go_wp2
    go_ret
    exact ⟨ret_int HW.out, rfl⟩
  · go_enter Yba.func12, Yba.ntmps12
    go_wp2
    go_ret
    exact ⟨ret_int (by omega), rfl⟩
theorem grown_drewN {w wr : World} (h : Grown w wr) : ∀ n, Grown w (wr.drewN n)
  | 0 => h
  | n + 1 => Grown.drew (grown_drewN h n)
/-- Whatever had grown into 'w' has grown into 'w''. -/
def Gr (w w' : World) : Prop := ∀ v, Grown v w → Grown v w'
theorem Gr.refl (w : World) : Gr w w := fun _ h => h
theorem Gr.drewN {w wr : World} (h : Gr w wr) (n : Nat) : Gr w (wr.drewN n) := fun v hv => grown_drewN (h v hv) n
set_option maxHeartbeats 400000 in
theorem gcd_any (a b : Int) (w : World) (ha : -9223372036854775808 ≤ a ∧ a ≤ 9223372036854775807) (hb : -9223372036854775808 ≤ b ∧ b ≤ 9223372036854775807) :
    Calls Yba.prog 10 #[.int .i64 a, .int .i64 b] w fun e w' => (∃ r : Int, e = .returned (.int .i64 r) ∧ Math.Got a b r) ∧ Gr w w' := by
  go_enter Yba.func10, Yba.ntmps10
  go_wp2
  go_loopw [0, 1] (fun x y wr => ∃ (p q : Int) (n : Nat), x = .int .i64 p ∧ y = .int .i64 q ∧ Math.Eu a b p q n ∧ Gr w wr) (fun _ y _ => (intOf y).natAbs)
  case atStart => exact ⟨a, b, 0, rfl, rfl, Math.eu_start a b ha hb, Gr.refl _⟩
  case round =>
    obtain ⟨p, q, n, rfl, rfl, hE, hg⟩ := hrel
    by_cases hq : q = 0
    · subst hq
      have H := Math.eu_stop hE
      go_wp2
      go_ret
      exact ⟨⟨p, rfl, H⟩, hg⟩
    · have hq' : (q == 0) = false := by simp [hq]
      have H := Math.eu_step hE hq
      have hl := Math.tmod_lt p q hq
      go_wp2
      go_quiet (fail)
      go_wp2
      go_roundw
      case rel => exact ⟨q, p.tmod q, n + 1, rfl, rfl, H, hg.drewN _⟩
      case measure => simpa [intOf] using hl
set_option maxHeartbeats 400000 in
theorem steps_any (a b : Int) (w : World) (ha : -9223372036854775808 ≤ a ∧ a ≤ 9223372036854775807) (hb : -9223372036854775808 ≤ b ∧ b ≤ 9223372036854775807) :
    Calls Yba.prog 13 #[.int .i64 a, .int .i64 b] w fun e w' => e = .returned (.int .i64 (Math.es a.natAbs b.natAbs)) ∧ Gr w w' := by
  have cA := abs_any a w ha.1 ha.2
  have cB := abs_any b w hb.1 hb.2
  have hes : Math.es a.natAbs b.natAbs ≤ 128 := Math.es_bits 64 _ _ (by have : (2 : Nat) ^ 64 = 18446744073709551616 := rfl; omega)
  have hX : a.natAbs ≤ 9223372036854775808 := by omega
  have hY : b.natAbs ≤ 9223372036854775808 := by omega
  generalize a.natAbs = X at *
  generalize b.natAbs = Y at *
  go_enter Yba.func13, Yba.ntmps13
  go_wp2_with fail
  refine cA.mono ?_
  rintro e w ⟨rfl, rfl⟩
  go_wp2_with fail
  refine cB.mono ?_
  rintro e w ⟨rfl, rfl⟩
  go_wp2
  go_loopw [5, 6, 7] (fun x y c wr => ∃ (p q n : Nat), x = .int .u64 p ∧ y = .int .u64 q ∧ c = .int .i64 n ∧ Math.es X Y = n + Math.es p q ∧ Gr w wr) (fun _ y _ _ => (intOf y).toNat)
  case atStart => exact ⟨X, Y, 0, rfl, rfl, rfl, by omega, Gr.refl _⟩
  case round =>
    obtain ⟨p, q, n, rfl, rfl, rfl, hE, hg⟩ := hrel
    have hn : n ≤ 128 := by omega
    have HE : Hid (_ = _) := hE
    clear hE
    by_cases hq : q = 0
    · subst hq
      go_wp2
      go_ret
      exact ⟨ret_int (by rw [HE.out, Math.es_zero]; omega), hg⟩
    · have hq' : ((q : Int) == 0) = false := by simp [hq]
      have hq2 : ¬ (q : Int) = 0 := by omega
      have hl := Nat.mod_lt p (Nat.pos_of_ne_zero hq)
      go_wp2
      go_quiet (fail)
      go_wp2
      go_roundw
      case rel => exact ⟨q, p % q, n + 1, rfl, int_eq (Int.natCast_emod p q).symm, int_eq (by omega), by rw [HE.out, Math.es_step p q hq]; omega, hg.drewN _⟩
      case measure => simp only [intOf, ← Int.natCast_emod, Int.toNat_natCast]; exact hl
theorem and1 (X : Nat) (h : X ≤ 9223372036854775808) : bits BinOp.and IntKind.u64 (X : Int) 1 = (X : Int) % 2 := and_one_u64 _ (by omega) (by omega)
theorem even_t (X : Nat) (h : X ≤ 9223372036854775808) (he : X % 2 = 0) : (bits BinOp.and IntKind.u64 (X : Int) 1 == 0) = true := by
  rw [and1 X h]; simp; omega
theorem even_f (X : Nat) (h : X ≤ 9223372036854775808) (he : X % 2 = 1) : (bits BinOp.and IntKind.u64 (X : Int) 1 == 0) = false := by
  rw [and1 X h]; simp; omega
theorem or1 (X Y : Nat) (hX : X ≤ 9223372036854775808) (hY : Y ≤ 9223372036854775808) : bits BinOp.and IntKind.u64 (bits BinOp.or IntKind.u64 (X : Int) (Y : Int)) 1 = (((X ||| Y) % 2 : Nat) : Int) := by
  have e : bits BinOp.or IntKind.u64 (X : Int) (Y : Int) = ((X ||| Y : Nat) : Int) := bits_or_u64_nat X Y (by omega) (by omega)
  have hl : X ||| Y < 2 ^ 64 := Nat.or_lt_two_pow (by omega) (by omega)
  have hl' : X ||| Y < 18446744073709551616 := hl
  rw [e, and_one_u64 _ (by omega) (by omega)]
  omega
theorem or_mod (X Y : Nat) : (X ||| Y) % 2 = 0 ↔ X % 2 = 0 ∧ Y % 2 = 0 := by
  have h : ((X ||| Y) % 2 = 1) ↔ (X % 2 = 1 ∨ Y % 2 = 1) := by
    rw [← Nat.and_one_is_mod, ← Nat.and_one_is_mod, ← Nat.and_one_is_mod, Nat.and_or_distrib_right]
    rcases Nat.mod_two_eq_zero_or_one X with h1 | h1 <;> rcases Nat.mod_two_eq_zero_or_one Y with h2 | h2 <;> simp [Nat.and_one_is_mod, h1, h2]
  omega
theorem both_t (X Y : Nat) (hX : X ≤ 9223372036854775808) (hY : Y ≤ 9223372036854775808) (h1 : X % 2 = 0) (h2 : Y % 2 = 0) : (bits BinOp.and IntKind.u64 (bits BinOp.or IntKind.u64 (X : Int) (Y : Int)) 1 == 0) = true := by
  rw [or1 X Y hX hY, (or_mod X Y).2 ⟨h1, h2⟩]; rfl
theorem both_f (X Y : Nat) (hX : X ≤ 9223372036854775808) (hY : Y ≤ 9223372036854775808) (h : ¬ (X % 2 = 0 ∧ Y % 2 = 0)) : (bits BinOp.and IntKind.u64 (bits BinOp.or IntKind.u64 (X : Int) (Y : Int)) 1 == 0) = false := by
  rw [or1 X Y hX hY]
  have := mt (or_mod X Y).1 h
  simp; omega

theorem bin_end {x y X Y P k : Nat} (h : Math.Bi x y X Y k) (hP : P = Nat.gcd X Y) (hx : x ≤ 9223372036854775808) (h0 : 0 < x) : IntKind.u64.wrap ((P : Int) * 2 ^ k) = (Nat.gcd x y : Int) := by
  have e : (P : Int) * 2 ^ k = ((Nat.gcd x y : Nat) : Int) := by
    rw [Math.bi_gcd h, hP]
    simp
  have hle : Nat.gcd x y ≤ x := Nat.gcd_le_left y h0
  rw [e]
  simp [IntKind.wrap, IntKind.signed, IntKind.bits]
  omega
set_option maxHeartbeats 800000 in
theorem bin_any (x y : Nat) (w : World) (hx : x ≤ 9223372036854775808) (hy : y ≤ 9223372036854775808) :
    Calls Yba.prog 11 #[.int .u64 x, .int .u64 y] w fun e w' => e = .returned (.int .u64 (Nat.gcd x y)) ∧ w' = w := by
  by_cases hx0 : x = 0
  · subst hx0
    go_enter Yba.func11, Yba.ntmps11
    go_wp2
    go_ret
    exact ⟨ret_int (by rw [Nat.gcd_zero_left]), rfl⟩
  · by_cases hy0 : y = 0
    · subst hy0
      go_enter Yba.func11, Yba.ntmps11
      go_wp2
      go_ret
      exact ⟨ret_int (by rw [Nat.gcd_zero_right]), rfl⟩
    · have hx1 : ((x : Int) == 0) = false := by simp [hx0]
      have hy1 : ((y : Int) == 0) = false := by simp [hy0]
      go_enter Yba.func11, Yba.ntmps11
      go_wp2
      go_loop [0, 1, 5] (fun xv yv sv => ∃ X Y k : Nat, xv = .int .u64 X ∧ yv = .int .u64 Y ∧ sv = .int .i64 k ∧ Hid (Math.Bi x y X Y k) ∧ X ≤ 9223372036854775808 ∧ Y ≤ 9223372036854775808 ∧ k < 64) (fun xv _ _ => (intOf xv).toNat)
      case atStart => exact ⟨x, y, 0, rfl, rfl, rfl, ⟨by simp, by simp, by omega, by omega⟩, hx, hy, by omega⟩
      case round =>
        obtain ⟨X, Y, k, rfl, rfl, rfl, HB, hX, hY, hk⟩ := hrel
        by_cases hc : X % 2 = 0 ∧ Y % 2 = 0
        · have ht := both_t X Y hX hY hc.1 hc.2
          have HB' : Hid (Math.Bi x y (X / 2) (Y / 2) (k + 1)) := Math.bi_step HB.out hc.1 hc.2
          have hk' := Math.bi_k HB'.out (Nat.lt_of_le_of_lt hx (by decide))
          have hpos := HB.out.X
          clear hc
          go_wp2
          go_round
          case rel => exact ⟨X / 2, Y / 2, k + 1, int_eq (by omega), int_eq (by omega), int_eq (by omega), HB', by omega, by omega, hk'⟩
          case measure => simp [intOf]; omega
        · have hf := both_f X Y hX hY hc
          have hXp := HB.out.X
          have hYp := HB.out.Y
          go_wp2
          go_loop [0] (fun xv => ∃ Z : Nat, xv = .int .u64 Z ∧ Z ≤ 9223372036854775808 ∧ 0 < Z ∧ (Z % 2 = 1 ∨ Y % 2 = 1) ∧ Hid (Nat.gcd Z Y = Nat.gcd X Y)) (fun xv => (intOf xv).toNat)
          case atStart => exact ⟨X, rfl, hX, hXp, by omega, rfl⟩
          case round =>
            obtain ⟨Z, rfl, hZ, hZp, hodd, HZ⟩ := hrel
            by_cases he : Z % 2 = 0
            · have ht := even_t Z hZ he
              have HZ' : Hid (Nat.gcd (Z / 2) Y = Nat.gcd X Y) := by
                show Nat.gcd (Z / 2) Y = Nat.gcd X Y
                rw [Math.half_gcd_left Z Y he (by omega)]; exact HZ.out
              go_wp2
              go_round
              case rel => exact ⟨Z / 2, int_eq (by omega), by omega, by omega, by omega, HZ'⟩
              case measure => simp [intOf]; omega
            · have ht := even_f Z hZ (by omega)
              have hz1 : Z % 2 = 1 := by omega
              clear he hodd hc
              go_wp2
              go_loop [0, 1] (fun xv yv => ∃ P Q : Nat, xv = .int .u64 P ∧ yv = .int .u64 Q ∧ P ≤ 9223372036854775808 ∧ Q ≤ 9223372036854775808 ∧ P % 2 = 1 ∧ Hid (Nat.gcd P Q = Nat.gcd X Y)) (fun xv yv => (intOf xv).toNat + (intOf yv).toNat)
              case atStart => exact ⟨Z, Y, rfl, rfl, hZ, hY, hz1, HZ⟩
              case round =>
                obtain ⟨P, Q, rfl, rfl, hP, hQ, hPo, HG⟩ := hrel
                by_cases hQ0 : Q = 0
                · subst hQ0
                  have HF : Hid (IntKind.u64.wrap ((P : Int) * 2 ^ k) = (Nat.gcd x y : Int)) := bin_end HB.out (by have := HG.out; rwa [Nat.gcd_zero_right] at this) hx (by omega)
                  go_wp2
                  go_ret
                  exact ⟨ret_int HF.out, rfl⟩
                · have hQ1 : ((Q : Int) == 0) = false := by simp [hQ0]
                  have hQp : 0 < Q := by omega
                  clear hQ0
                  go_wp2
                  go_loop [1] (fun yv => ∃ R : Nat, yv = .int .u64 R ∧ R ≤ Q ∧ 0 < R ∧ Hid (Nat.gcd P R = Nat.gcd X Y)) (fun yv => (intOf yv).toNat)
                  case atStart => exact ⟨Q, rfl, Nat.le_refl _, hQp, HG⟩
                  case round =>
                    obtain ⟨R, rfl, hRQ, hRp, HR⟩ := hrel
                    by_cases he : R % 2 = 0
                    · have ht2 := even_t R (by omega) he
                      have HR' : Hid (Nat.gcd P (R / 2) = Nat.gcd X Y) := by
                        show Nat.gcd P (R / 2) = Nat.gcd X Y
                        rw [Math.half_gcd_right P R he hPo]; exact HR.out
                      go_wp2
                      go_round
                      case rel => exact ⟨R / 2, int_eq (by omega), by omega, by omega, HR'⟩
                      case measure => simp [intOf]; omega
                    · have ht2 := even_f R (by omega) (by omega)
                      by_cases hlt : R < P
                      · have HS : Hid (Nat.gcd R (P - R) = Nat.gcd X Y) := by
                          show Nat.gcd R (P - R) = Nat.gcd X Y
                          rw [Math.gcd_sub R P (by omega), Nat.gcd_comm]; exact HR.out
                        go_wp2
                        go_round
                        case rel => exact ⟨R, P - R, rfl, int_eq (by omega), by omega, by omega, by omega, HS⟩
                        case measure => simp [intOf]; omega
                      · have HS : Hid (Nat.gcd P (R - P) = Nat.gcd X Y) := by
                          show Nat.gcd P (R - P) = Nat.gcd X Y
                          rw [Math.gcd_sub P R (by omega)]; exact HR.out
                        go_wp2
                        go_round
                        case rel => exact ⟨P, R - P, rfl, int_eq (by omega), by omega, by omega, by omega, HS⟩
                        case measure => simp [intOf]; omega
end Go.Proofs.Ybulkexovm
