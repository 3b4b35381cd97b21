/-
  The plain law of LawS194073BBuilt: what is written FILE:OFFSET is read back.
-/
import Derived.Test.YbulkexofwFmtDecMath
namespace Go.Proofs.YbulkexofwFmt

theorem get_bang (s : ByteArray) (j : Nat) (h : j < s.size) : ∃ h' : j < s.data.toList.length, s.data[j]! = s.data.toList[j] := by
  have h1 : j < s.data.size := h
  refine ⟨by simpa using h1, ?_⟩
  rw [getElem!_pos s.data j h1]
  simp

theorem last_built (s : ByteArray) (F tl : List UInt8) (hs : s.data.toList = F ++ 58 :: tl) (hd : Digits tl) : Lib.lastIndexByte s 58 = F.length := by
  have hsz : s.size = F.length + 1 + tl.length := by
    show s.data.size = _
    rw [← Array.length_toList, hs]; simp; omega
  have hcol : ((s.data[F.length]!).toNat : Int) = 58 := by
    obtain ⟨h', e⟩ := get_bang s F.length (by omega)
    rw [e]
    simp only [hs, List.getElem_append_right (Nat.le_refl _), Nat.sub_self, List.getElem_cons_zero]
    decide
  rcases Lib.lastIndexByte_spec s 58 with ⟨_, hno⟩ | ⟨i, hi, e, hc, hno⟩
  · exact absurd hcol (hno F.length (by omega))
  · rcases Nat.lt_trichotomy i F.length with h | h | h
    · exact absurd hcol (hno F.length h (by omega))
    · rw [e, h]
    · obtain ⟨h', e'⟩ := get_bang s i hi
      rw [e'] at hc
      have hm : s.data.toList[i] ∈ tl := by
        have e3 : s.data.toList[i]? = tl[i - F.length - 1]? := by
          rw [hs, List.getElem?_append_right (by omega), List.getElem?_cons, if_neg (by omega)]
        rw [List.getElem?_eq_getElem h'] at e3
        exact List.mem_of_getElem? e3.symm
      have := hd _ hm
      omega

theorem ext_data (s : ByteArray) (a b : Nat) : (s.extract a b).data.toList = (s.data.toList.take b).drop a := by
  rw [ByteArray.data_extract, Array.toList_extract]
  simp [List.drop_take]

theorem num_built (s : ByteArray) (F tl : List UInt8) (hs : s.data.toList = F ++ 58 :: tl) (h0 : tl ≠ []) : numAt s F.length = numFrom 0 tl := by
  have hsz : s.size = F.length + 1 + tl.length := by
    show s.data.size = _
    rw [← Array.length_toList, hs]; simp; omega
  have e : (s.extract (F.length + 1) s.size).data.toList = tl := by
    rw [ext_data, hs, List.take_of_length_le (by simp; omega)]
    rw [show F ++ 58 :: tl = (F ++ [58]) ++ tl from by simp]
    rw [show F.length + 1 = (F ++ [58]).length from by simp]
    exact List.drop_left
  have hl : 0 < tl.length := List.length_pos_iff.2 h0
  rw [numAt_from s F.length (by rw [ByteArray.size_extract]; omega), e]

theorem pos_built {n p : Nat} (file : ByteArray) (l : List UInt8) (s : ByteArray) (hs : s.data.toList = file.data.toList ++ 58 :: l.reverse) (ht : Tail n p l) (hn : n ≤ 4294967295) (h0 : 0 < file.size) :
    posOf s = some (file.size, n) ∧ s.extract 0 file.size = file := by
  obtain ⟨h1, h2, h3, _⟩ := ht
  have hl : file.data.toList.length = file.size := by simp
  have hi := last_built s _ _ hs (digits_reverse h2)
  rw [hl] at hi
  constructor
  · rw [posOf_at s file.size hi h0, ← hl, num_built s _ _ hs (by simpa using h1), numFrom_val l h2 (by omega), h3]
    rfl
  · apply ByteArray.ext
    apply Array.toList_inj.1
    rw [ext_data, hs, ← hl, List.take_left, List.drop_zero]

theorem pos_bare {n p : Nat} (l : List UInt8) (s : ByteArray) (hs : s.data.toList = 58 :: l.reverse) (ht : Tail n p l) : posOf s = none :=
  posOf_no s _ (last_built s [] _ hs (digits_reverse ht.2.1)) (by simp)
end Go.Proofs.YbulkexofwFmt
