/-
  The plain laws of this seat: no program, no world. The place of the last colon; the number behind it.
-/
import Derived.Lib.LastIndexByte
import Derived.Lib.ParseIntB
namespace Go.Proofs.YbulkexofwFmt

theorem byte_at (s : ByteArray) (j : Nat) (h : j < s.size) : s.data[j]! = s[j] := by
  have h' : j < s.data.size := h
  rw [getElem!_pos s.data j h']
  rfl
theorem last_hit (s : ByteArray) (c : Int) (j : Nat) (h : j < s.size) (hc : ((s[j].toNat : Int) == c) = true) : Lib.lastIdx s c (j + 1) = j :=
  Lib.lastIdx_hit s c j (by rw [byte_at s j h]; simpa using hc)
theorem last_miss (s : ByteArray) (c : Int) (j : Nat) (h : j < s.size) (hc : ((s[j].toNat : Int) == c) = false) : Lib.lastIdx s c (j + 1) = Lib.lastIdx s c j :=
  Lib.lastIdx_miss s c j (by rw [byte_at s j h]; simpa using hc)
theorem last_lt (s : ByteArray) (c : Int) : Lib.lastIndexByte s c = -1 ∨ ∃ i : Nat, i < s.size ∧ Lib.lastIndexByte s c = i := by
  rcases Lib.lastIndexByte_spec s c with ⟨h, _⟩ | ⟨i, hi, h, _⟩
  · exact .inl h
  · exact .inr ⟨i, hi, h⟩

/-- How the number parses: a number, or nothing. -/
def num? : Lib.NumEnd Nat → Option Nat
  | .ok u => some u
  | _ => none
/-- What the bytes from place 'k' on spell behind 'acc', a number of 32 bits. -/
def numFrom (acc : Nat) (l : List UInt8) : Option Nat := num? (Lib.parseUintM 4294967295 acc l)

theorem numFrom_nil (acc : Nat) : numFrom acc [] = some acc := rfl
theorem numFrom_bad (acc : Nat) (c : UInt8) (r : List UInt8) (h : (c.toNat : Int) < 48 ∨ 57 < (c.toNat : Int)) : numFrom acc (c :: r) = none := by
  unfold numFrom Lib.parseUintM
  rw [if_neg (by omega)]
  rfl
theorem numFrom_step (acc : Nat) (c : UInt8) (r : List UInt8) (ha : acc ≤ 4294967295) (h1 : 48 ≤ (c.toNat : Int)) (h2 : (c.toNat : Int) ≤ 57) :
    numFrom acc (c :: r) = if 4294967295 < acc * 10 + (c.toNat - 48) then none else numFrom (acc * 10 + (c.toNat - 48)) r := by
  unfold numFrom
  rw [Lib.parseUintM, if_pos (by omega), if_neg (by omega)]
  split <;> rfl
theorem numFrom_le : ∀ (l : List UInt8) (acc u : Nat), acc ≤ 4294967295 → numFrom acc l = some u → u ≤ 4294967295
  | [], acc, u, ha, h => by
    rw [numFrom_nil] at h
    injection h with h
    omega
  | c :: r, acc, u, ha, h => by
    by_cases hc : (c.toNat : Int) < 48 ∨ 57 < (c.toNat : Int)
    · rw [numFrom_bad acc c r hc] at h
      cases h
    · rw [numFrom_step acc c r ha (by omega) (by omega)] at h
      split at h
      · cases h
      · exact numFrom_le r _ u (by omega) h

/-- What stands behind the last colon, as a number. -/
def numAt (s : ByteArray) (i : Nat) : Option Nat := num? (Lib.parseUintB 32 (s.extract (i + 1) s.size).data.toList)
/-- The law's one answer: the place of the last colon and the number behind it, where both are there. -/
def posOf (s : ByteArray) : Option (Nat × Nat) :=
  if Lib.lastIndexByte s 58 ≤ 0 then none else (numAt s (Lib.lastIndexByte s 58).toNat).map fun u => ((Lib.lastIndexByte s 58).toNat, u)

theorem posOf_no (s : ByteArray) (i : Int) (h : Lib.lastIndexByte s 58 = i) (hi : i ≤ 0) : posOf s = none := by
  unfold posOf
  rw [h, if_pos hi]
theorem posOf_at (s : ByteArray) (i : Nat) (h : Lib.lastIndexByte s 58 = i) (hi : 0 < i) : posOf s = (numAt s i).map fun u => (i, u) := by
  unfold posOf
  rw [h, if_neg (by omega)]
  rfl

theorem numAt_nil (s : ByteArray) (i : Nat) (h : (s.extract (i + 1) s.size).size = 0) : numAt s i = none := by
  unfold numAt Lib.parseUintB
  have : (s.extract (i + 1) s.size).data.toList = [] := by
    rw [← List.length_eq_zero_iff, Array.length_toList]
    exact h
  rw [if_pos this]
  rfl
theorem numAt_from (s : ByteArray) (i : Nat) (h : (s.extract (i + 1) s.size).size ≠ 0) : numAt s i = numFrom 0 (s.extract (i + 1) s.size).data.toList := by
  unfold numAt numFrom Lib.parseUintB
  have : (s.extract (i + 1) s.size).data.toList ≠ [] := by
    rw [ne_eq, ← List.length_eq_zero_iff, Array.length_toList]
    exact h
  rw [if_neg this]
theorem drop_at (t : ByteArray) (k : Nat) (h : k < t.size) : t.data.toList.drop k = t[k] :: t.data.toList.drop (k + 1) := by
  have h' : k < t.data.toList.length := by simpa using h
  rw [List.drop_eq_getElem_cons h']
  rfl
theorem drop_all (t : ByteArray) (k : Nat) (h : t.size ≤ k) : t.data.toList.drop k = [] := by
  rw [List.drop_eq_nil_iff, Array.length_toList]
  exact h
end Go.Proofs.YbulkexofwFmt
