/-
  The plain laws of the decimal numeral that LawS194073BBuilt writes: no program, no world.
-/
import Derived.Test.YbulkexofwFmtMath
namespace Go.Proofs.YbulkexofwFmt

def dig (m : Nat) : UInt8 := UInt8.ofNat (48 + m % 10)
theorem dig_nat (m : Nat) : (dig m).toNat = 48 + m % 10 := by
  unfold dig
  rw [UInt8.toNat_ofNat']
  omega
/-- Digits alone. -/
def Digits (l : List UInt8) : Prop := ∀ c ∈ l, 48 ≤ c.toNat ∧ c.toNat ≤ 57
/-- What a list of digits, the last first, is worth. -/
def val (l : List UInt8) : Nat := l.foldr (fun c a => a * 10 + (c.toNat - 48)) 0

theorem val_snoc : ∀ (l : List UInt8) (d : UInt8), val (l ++ [d]) = val l + 10 ^ l.length * (d.toNat - 48)
  | [], d => by simp [val]
  | c :: r, d => by
    have := val_snoc r d
    unfold val at this ⊢
    simp only [List.cons_append, List.foldr_cons, this, List.length_cons, Nat.pow_succ]
    rw [Nat.add_mul, Nat.mul_right_comm]
    omega
theorem val_zeros (l : List UInt8) : ∀ p : Nat, val (l ++ List.replicate p 48) = val l
  | 0 => by simp
  | p + 1 => by
    rw [List.replicate_succ', ← List.append_assoc, val_snoc, val_zeros l p]
    simp
theorem digits_snoc {l : List UInt8} {d : UInt8} (h : Digits l) (hd : 48 ≤ d.toNat ∧ d.toNat ≤ 57) : Digits (l ++ [d]) := by
  intro c hc
  rcases List.mem_append.1 hc with h' | h'
  · exact h c h'
  · rw [List.mem_singleton] at h'
    rw [h']; exact hd
theorem digits_reverse {l : List UInt8} (h : Digits l) : Digits l.reverse := fun c hc => h c (List.mem_reverse.1 hc)
theorem digits_zeros {l : List UInt8} (h : Digits l) : ∀ p : Nat, Digits (l ++ List.replicate p 48)
  | 0 => by simpa using h
  | p + 1 => by
    rw [List.replicate_succ', ← List.append_assoc]
    exact digits_snoc (digits_zeros h p) (by decide)

theorem fold_ge : ∀ (l : List UInt8) (acc : Nat), acc ≤ l.foldl (fun a c => a * 10 + (c.toNat - 48)) acc
  | [], acc => Nat.le_refl _
  | c :: r, acc => by
    have := fold_ge r (acc * 10 + (c.toNat - 48))
    simp only [List.foldl_cons]
    omega
theorem numFrom_digits : ∀ (l : List UInt8) (acc : Nat), Digits l → l.foldl (fun a c => a * 10 + (c.toNat - 48)) acc ≤ 4294967295 → numFrom acc l = some (l.foldl (fun a c => a * 10 + (c.toNat - 48)) acc)
  | [], acc, _, _ => rfl
  | c :: r, acc, hd, hle => by
    have hc := hd c (by simp)
    have hge := fold_ge r (acc * 10 + (c.toNat - 48))
    simp only [List.foldl_cons] at hle ⊢
    rw [numFrom_step acc c r (by omega) (by omega) (by omega), if_neg (by omega)]
    exact numFrom_digits r _ (fun x hx => hd x (List.mem_cons_of_mem _ hx)) hle
theorem numFrom_val (l : List UInt8) (hd : Digits l) (h : val l ≤ 4294967295) : numFrom 0 l.reverse = some (val l) := by
  have e : l.reverse.foldl (fun a c => a * 10 + (c.toNat - 48)) 0 = val l := by
    rw [List.foldl_reverse]; rfl
  rw [numFrom_digits l.reverse 0 (digits_reverse hd) (by rw [e]; exact h), e]

/-- What the loops leave, the last digit first. -/
def Tail (n p : Nat) (l : List UInt8) : Prop := l ≠ [] ∧ Digits l ∧ val l = n ∧ l.length ≤ 10 + p

/-- The first loop's state: 'm' is still to be written behind 'l'. -/
structure Dec (n m : Nat) (l : List UInt8) : Prop where
  digits : Digits l
  val : n = val l + 10 ^ l.length * m
  some : m = 0 → l ≠ []
  short : l.length ≤ 10
  le : m ≤ n

theorem dec_len {n m : Nat} {l : List UInt8} (h : Dec n m l) (hn : n ≤ 4294967295) (hm : 0 < m) : l.length ≤ 9 := by
  have h1 := h.val
  have h2 : 10 ^ l.length ≤ 10 ^ l.length * m := Nat.le_mul_of_pos_right _ hm
  rcases Nat.lt_or_ge l.length 10 with h' | h'
  · omega
  · have := Nat.pow_le_pow_right (n := 10) (by omega) h'
    have e : 10 ^ 10 = 10000000000 := rfl
    omega
theorem dec_start (n : Nat) (hn : 0 < n) : Dec n n [] := ⟨fun _ h => by simp at h, by simp [Go.Proofs.YbulkexofwFmt.val], fun h => by omega, by simp, Nat.le_refl _⟩
theorem dec_zero : Dec 0 0 [48] := ⟨fun c h => by simp at h; subst h; decide, by decide, fun _ => by simp, by simp, Nat.le_refl _⟩
theorem dec_step {n m : Nat} {l : List UInt8} (h : Dec n m l) (hn : n ≤ 4294967295) (hm : 0 < m) : Dec n (m / 10) (l ++ [dig m]) := by
  have hl := dec_len h hn hm
  refine ⟨digits_snoc h.digits (by rw [dig_nat]; omega), ?_, fun _ => by simp, by simp; omega, by have := h.le; omega⟩
  rw [val_snoc, dig_nat, List.length_append, List.length_singleton, Nat.pow_succ, Nat.add_assoc, Nat.mul_assoc, ← Nat.mul_add]
  rw [show 48 + m % 10 - 48 + 10 * (m / 10) = m from by omega]
  exact h.val
theorem dec_end {n : Nat} {l : List UInt8} (h : Dec n 0 l) (p : Nat) : Tail n p (l ++ List.replicate p 48) :=
  ⟨by simp [h.some rfl], digits_zeros h.digits p, by rw [val_zeros]; have := h.val; omega, by have := h.short; simp; omega⟩

/-- In the midst of the reversal: 'k' cells at either end are done. -/
def mid (l : List UInt8) (k : Nat) : List UInt8 := (List.range l.length).map fun i => if i < k ∨ l.length - k ≤ i then l.getD (l.length - 1 - i) 0 else l.getD i 0
theorem mid_length (l : List UInt8) (k : Nat) : (mid l k).length = l.length := by simp [mid]
theorem mid_get (l : List UInt8) (k i : Nat) (h : i < l.length) : (mid l k)[i]'(by rw [mid_length]; exact h) = if i < k ∨ l.length - k ≤ i then l.getD (l.length - 1 - i) 0 else l.getD i 0 := by
  simp [mid]
theorem mid_zero (l : List UInt8) : mid l 0 = l := by
  apply List.ext_getElem (mid_length l 0)
  intro i h1 h2
  rw [mid_get l 0 i h2, if_neg (by omega)]
  simp [h2]
theorem mid_end (l : List UInt8) (k : Nat) (h : l.length ≤ 2 * k + 1) (hk : 2 * k ≤ l.length) : mid l k = l.reverse := by
  apply List.ext_getElem (by rw [mid_length, List.length_reverse])
  intro i h1 h2
  have hi : i < l.length := by rwa [mid_length] at h1
  rw [mid_get l k i hi, List.getElem_reverse]
  have hg : l.length - 1 - i < l.length := by omega
  by_cases hc : i < k ∨ l.length - k ≤ i
  · rw [if_pos hc]
    simp [hg]
  · rw [if_neg hc]
    have e : l.length - 1 - i = i := by omega
    simp [e, hi]
theorem mid_step (l : List UInt8) (k : Nat) (h : 2 * k + 1 < l.length) :
    mid l (k + 1) = ((mid l k).set k (l.getD (l.length - 1 - k) 0)).set (l.length - 1 - k) (l.getD k 0) := by
  apply List.ext_getElem (by rw [List.length_set, List.length_set, mid_length, mid_length])
  intro i h1 h2
  have hi : i < l.length := by rwa [mid_length] at h1
  rw [mid_get l (k + 1) i hi, List.getElem_set, List.getElem_set, mid_get l k i hi]
  by_cases e1 : l.length - 1 - k = i
  · subst e1
    rw [if_pos rfl, if_pos (by omega)]
    congr 1
    omega
  · rw [if_neg e1]
    by_cases e2 : k = i
    · subst e2
      rw [if_pos rfl, if_pos (by omega)]
    · rw [if_neg e2]
      by_cases hc : i < k ∨ l.length - k ≤ i
      · rw [if_pos hc, if_pos (by omega)]
      · rw [if_neg hc, if_neg (by omega)]
theorem mid_left (l : List UInt8) (k : Nat) (h : 2 * k + 1 < l.length) : (mid l k)[k]? = some (l.getD k 0) := by
  rw [List.getElem?_eq_getElem (by rw [mid_length]; omega), mid_get l k k (by omega), if_neg (by omega)]
theorem mid_right (l : List UInt8) (k : Nat) (h : 2 * k + 1 < l.length) : (mid l k)[l.length - 1 - k]? = some (l.getD (l.length - 1 - k) 0) := by
  rw [List.getElem?_eq_getElem (by rw [mid_length]; omega), mid_get l k _ (by omega), if_neg (by omega)]
end Go.Proofs.YbulkexofwFmt
