/-
  The plain laws of this seat: Euclid's steps, the signs of Go's remainders, the binary greatest common divisor. No program, no world.
-/
namespace Go.Proofs.Ybulkexovm.Math

/-- Euclid's remainder steps, with fuel. -/
def esF : Nat → Nat → Nat → Nat
  | 0, _, _ => 0
  | f + 1, x, y => if y = 0 then 0 else 1 + esF f y (x % y)
def es (x y : Nat) : Nat := esF (y + 1) x y

theorem esF_fuel : ∀ (f g x y : Nat), y < f → y < g → esF f x y = esF g x y
  | 0, _, _, _, h, _ => by omega
  | _ + 1, 0, _, _, _, h => by omega
  | f + 1, g + 1, x, y, h, h' => by
    unfold esF
    by_cases hy : y = 0
    · simp [hy]
    · have := Nat.mod_lt x (Nat.pos_of_ne_zero hy)
      simp only [hy, if_false]
      rw [esF_fuel f g y (x % y) (by omega) (by omega)]

theorem es_zero (x : Nat) : es x 0 = 0 := rfl
theorem es_step (x y : Nat) (h : y ≠ 0) : es x y = 1 + es y (x % y) := by
  unfold es
  rw [esF]
  simp only [h, if_false]
  have := Nat.mod_lt x (Nat.pos_of_ne_zero h)
  rw [esF_fuel y (x % y + 1) y (x % y) this (by omega)]

theorem gcd_step (x y : Nat) : Nat.gcd x y = Nat.gcd y (x % y) := by
  rw [Nat.gcd_comm x y, Nat.gcd_rec y x, Nat.gcd_comm]

/-- Both even. -/
theorem gcd_both (x y : Nat) : Nat.gcd (2 * x) (2 * y) = 2 * Nat.gcd x y := Nat.gcd_mul_left 2 x y

theorem cop_two (y : Nat) (h : y % 2 = 1) : Nat.Coprime 2 y := by
  show Nat.gcd 2 y = 1
  rw [Nat.gcd_rec, h]; rfl

/-- A factor two of one side alone falls away. -/
theorem gcd_left (x y : Nat) (h : y % 2 = 1) : Nat.gcd (2 * x) y = Nat.gcd x y :=
  Nat.Coprime.gcd_mul_left_cancel x (cop_two y h)
theorem gcd_right (x y : Nat) (h : x % 2 = 1) : Nat.gcd x (2 * y) = Nat.gcd x y := by
  rw [Nat.gcd_comm, gcd_left y x h, Nat.gcd_comm]
theorem gcd_sub (x y : Nat) (h : x ≤ y) : Nat.gcd x (y - x) = Nat.gcd x y := Nat.gcd_sub_self_right h

theorem tmod_natAbs (a b : Int) : (a.tmod b).natAbs = a.natAbs % b.natAbs := Int.natAbs_tmod a b
theorem tmod_neg (a b : Int) (h : a.tmod b < 0) : a < 0 := by
  rcases Int.lt_or_le a 0 with h' | h'
  · exact h'
  · have := Int.tmod_nonneg b h'; omega
theorem tmod_pos (a b : Int) (h : 0 < a.tmod b) : 0 < a := by
  rcases Int.lt_or_le 0 a with h' | h'
  · exact h'
  · have := Int.tmod_nonneg b (a := -a) (by omega)
    rw [Int.neg_tmod] at this; omega

theorem es_bits : ∀ (k x y : Nat), y < 2 ^ k → es x y ≤ 2 * k
  | 0, x, y, h => by
    have : y = 0 := by simpa using h
    rw [this, es_zero]; omega
  | k + 1, x, y, h => by
    by_cases hy : y = 0
    · rw [hy, es_zero]; omega
    · rw [es_step x y hy]
      have hr := Nat.mod_lt x (Nat.pos_of_ne_zero hy)
      by_cases hr0 : x % y = 0
      · rw [hr0, es_zero]; omega
      · rw [es_step y (x % y) hr0]
        have hs := Nat.mod_lt y (Nat.pos_of_ne_zero hr0)
        have hq : (x % y) * (y / (x % y)) + y % (x % y) = y := Nat.div_add_mod y (x % y)
        have h1 : 1 ≤ y / (x % y) := (Nat.one_le_div_iff (Nat.pos_of_ne_zero hr0)).2 (by omega)
        have h2 : (x % y) ≤ (x % y) * (y / (x % y)) := Nat.le_mul_of_pos_right _ h1
        have h3 : y % (x % y) < 2 ^ k := by
          rw [Nat.pow_succ] at h
          omega
        have := es_bits k (x % y) (y % (x % y)) h3
        omega

/-- 'x' bears no other sign than 'y'. -/
def Sg (x y : Int) : Prop := (x < 0 → y < 0) ∧ (0 < x → 0 < y)
/-- Behind 'n' rounds of gcd(a, b) the variables hold 'p' and 'q'. -/
structure Eu (a b p q : Int) (n : Nat) : Prop where
  gcd : Nat.gcd p.natAbs q.natAbs = Nat.gcd a.natAbs b.natAbs
  steps : es a.natAbs b.natAbs = n + es p.natAbs q.natAbs
  even : n % 2 = 0 → Sg p a ∧ Sg q b
  odd : n % 2 = 1 → Sg p b ∧ Sg q a
  p0 : -9223372036854775808 ≤ p
  p1 : p ≤ 9223372036854775807
  q0 : -9223372036854775808 ≤ q
  q1 : q ≤ 9223372036854775807
theorem Sg.refl (x : Int) : Sg x x := ⟨id, id⟩
theorem eu_start (a b : Int) (ha : -9223372036854775808 ≤ a ∧ a ≤ 9223372036854775807) (hb : -9223372036854775808 ≤ b ∧ b ≤ 9223372036854775807) : Eu a b a b 0 :=
  ⟨rfl, by omega, fun _ => ⟨Sg.refl a, Sg.refl b⟩, fun h => by omega, ha.1, ha.2, hb.1, hb.2⟩
theorem sg_tmod {p q a : Int} (h : Sg p a) : Sg (p.tmod q) a := ⟨fun h' => h.1 (tmod_neg p q h'), fun h' => h.2 (tmod_pos p q h')⟩
theorem tmod_lt (p q : Int) (h : q ≠ 0) : (p.tmod q).natAbs < q.natAbs := by
  rw [tmod_natAbs]
  exact Nat.mod_lt _ (by omega)
theorem eu_step {a b p q : Int} {n : Nat} (h : Eu a b p q n) (hq : q ≠ 0) : Eu a b q (p.tmod q) (n + 1) := by
  have hl := tmod_lt p q hq
  have h1 := h.q0
  have h2 := h.q1
  refine ⟨?_, ?_, fun e => ?_, fun e => ?_, h.q0, h.q1, by omega, by omega⟩
  · rw [tmod_natAbs, ← gcd_step]; exact h.gcd
  · rw [tmod_natAbs, h.steps, es_step p.natAbs q.natAbs (by omega)]; omega
  · have := h.odd (by omega); exact ⟨this.2, sg_tmod this.1⟩
  · have := h.even (by omega); exact ⟨this.2, sg_tmod this.1⟩
/-- What gcd(a, b) hands back. -/
structure Got (a b r : Int) : Prop where
  abs : r.natAbs = Nat.gcd a.natAbs b.natAbs
  sign : Sg r (if es a.natAbs b.natAbs % 2 = 1 then b else a)
  lo : -9223372036854775808 ≤ r
  hi : r ≤ 9223372036854775807
theorem eu_stop {a b p : Int} {n : Nat} (h : Eu a b p 0 n) : Got a b p := by
  have hs := h.steps
  rw [Int.natAbs_zero, es_zero] at hs
  refine ⟨by have := h.gcd; rw [Int.natAbs_zero, Nat.gcd_zero_right] at this; exact this, ?_, h.p0, h.p1⟩
  by_cases e : n % 2 = 1
  · rw [if_pos (by omega)]; exact (h.odd e).1
  · rw [if_neg (by omega)]; exact (h.even (by omega)).1

/-! ### The binary one. -/
/-- The first loop: both halved 'k' times. -/
structure Bi (x y X Y k : Nat) : Prop where
  x : X * 2 ^ k = x
  y : Y * 2 ^ k = y
  X : 0 < X
  Y : 0 < Y
theorem bi_gcd {x y X Y k : Nat} (h : Bi x y X Y k) : Nat.gcd x y = Nat.gcd X Y * 2 ^ k := by
  rw [← h.x, ← h.y, Nat.gcd_mul_right]
theorem bi_step {x y X Y k : Nat} (h : Bi x y X Y k) (hX : X % 2 = 0) (hY : Y % 2 = 0) : Bi x y (X / 2) (Y / 2) (k + 1) := by
  have h1 := h.X
  have h2 := h.Y
  refine ⟨?_, ?_, by omega, by omega⟩
  · rw [Nat.pow_succ, Nat.mul_comm (2 ^ k) 2, ← Nat.mul_assoc, Nat.div_mul_cancel (Nat.dvd_of_mod_eq_zero hX)]; exact h.x
  · rw [Nat.pow_succ, Nat.mul_comm (2 ^ k) 2, ← Nat.mul_assoc, Nat.div_mul_cancel (Nat.dvd_of_mod_eq_zero hY)]; exact h.y
theorem bi_k {x y X Y k : Nat} (h : Bi x y X Y k) (hx : x < 2 ^ 64) : k < 64 := by
  have h1 : 2 ^ k ≤ x := by rw [← h.x]; exact Nat.le_mul_of_pos_left _ h.X
  exact (Nat.pow_lt_pow_iff_right (by omega : 1 < 2)).1 (Nat.lt_of_le_of_lt h1 hx)
theorem half_gcd_left (X Y : Nat) (h : X % 2 = 0) (hY : Y % 2 = 1) : Nat.gcd (X / 2) Y = Nat.gcd X Y := by
  have := gcd_left (X / 2) Y hY
  rw [Nat.mul_div_cancel' (Nat.dvd_of_mod_eq_zero h)] at this
  exact this.symm
theorem half_gcd_right (X Y : Nat) (h : Y % 2 = 0) (hX : X % 2 = 1) : Nat.gcd X (Y / 2) = Nat.gcd X Y := by
  have := gcd_right X (Y / 2) hX
  rw [Nat.mul_div_cancel' (Nat.dvd_of_mod_eq_zero h)] at this
  exact this.symm
end Go.Proofs.Ybulkexovm.Math
