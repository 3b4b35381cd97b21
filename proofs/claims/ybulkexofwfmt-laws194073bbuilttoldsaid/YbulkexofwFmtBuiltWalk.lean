/-
  The walks of this seat, IV: LawS194073BBuilt (4).
-/
import Derived.Test.YbulkexofwFmtDec
import Derived.Test.YbulkexofwFmtBuiltMath
namespace Go.Proofs.YbulkexofwFmt
open Go.RowKit Go.Extern.Stop Go.Stop Go.Extern
set_option maxHeartbeats 1600000 in
theorem built_any (F : Interp) (file : ByteArray) (off pad : Int) (tp0 tp1 : TypeId) (p0 p1 : Value) (w : World) (hF : F.answers w.tape) (hs : file.size ≤ maxLen) (ho : 0 ≤ off ∧ off ≤ 4294967295) (hp : 0 ≤ pad ∧ pad ≤ 255)
    (hv0 : w.var? Ybaf.prog "strconv.ErrSyntax" = some #[.iface tp0 p0]) (hv1 : w.var? Ybaf.prog "strconv.ErrRange" = some #[.iface tp1 p1]) :
    Calls Ybaf.prog 4 #[.string file, .int .u32 off, .int .u8 pad] w fun e w' => e = .returned (.bool true) ∧ Below w.heap.size w w' := by
  unfold maxLen at hs
  obtain ⟨n, rfl⟩ := Int.eq_ofNat_of_zero_le ho.1
  obtain ⟨q, rfl⟩ := Int.eq_ofNat_of_zero_le hp.1
  have hn : n ≤ 4294967295 := by omega
  have hq : q ≤ 255 := by omega
  clear ho hp
  by_cases hl : file.size ≤ 1048576
  · have cD := dec_any n (q % 4) w hn (by omega)
    rw [show ((q % 4 : Nat) : Int) = (q : Int) % 4 from by omega] at cD
    have HV0 : Hid (_ = _) := hv0
    have HV1 : Hid (_ = _) := hv1
    clear hv0 hv1
    go_enter Ybaf.func4, Ybaf.ntmps4
    go_wp2_with fail
    refine cD.mono ?_
    rintro e w1 ⟨⟨l, ht, rfl⟩, hb1⟩
    clear cD
    have hlen : (⟨l.reverse.toArray⟩ : ByteArray).size ≤ 13 := by
      have := ht.2.2.2
      show l.reverse.toArray.size ≤ 13
      simp; omega
    have hD : (⟨l.reverse.toArray⟩ : ByteArray).data.toList = l.reverse := by simp
    have HD : Hid (_ = _) := hD
    clear hD
    generalize (⟨l.reverse.toArray⟩ : ByteArray) = t at *
    go_wp2_with fail
    obtain ⟨s, hsd⟩ : ∃ s, s = file ++ ⟨#[58]⟩ ++ t := ⟨_, rfl⟩
    rw [← hsd]
    have hsz : s.size ≤ 1048576 + 20 := by
      rw [hsd, ByteArray.size_append, ByteArray.size_append]
      show file.size + 1 + t.size ≤ _
      omega
    have HSD : Hid (s.data.toList = file.data.toList ++ 58 :: l.reverse) := by
      show s.data.toList = file.data.toList ++ 58 :: l.reverse
      rw [hsd, ByteArray.data_append, ByteArray.data_append, Array.toList_append, Array.toList_append, HD.out, List.append_assoc]
      rfl
    clear hsd
    have cP := parse_any F s tp0 tp1 p0 p1 w1 (by rw [hb1.tape]; exact hF) hsz (var_stays hb1 gSyntax HV0.out) (var_stays hb1 gRange HV1.out)
    refine cP.mono ?_
    rintro e w2 ⟨hb2, he⟩
    clear cP
    have hz1 := hb1.size
    have hz2 := hb2.size
    by_cases h0 : file.size = 0
    · have e0 : file = ⟨#[]⟩ := by
        apply ByteArray.ext
        exact Array.eq_empty_of_size_eq_zero h0
      rw [pos_bare l s (by rw [HSD.out, e0]; rfl) ht] at he
      obtain ⟨p, rfl⟩ := he
      clear HSD h0 hl hs
      subst e0
      go_wp2
      go_ret
      exact ⟨rfl, (hb1.trans (hb2.mono hz1)).alloc (by omega) _⟩
    · have hpos : 0 < file.size := by omega
      obtain ⟨e1, e2⟩ := pos_built file l s HSD.out ht hn hpos
      rw [e1] at he
      simp only [e2] at he
      subst he
      have he : file.toList.isEmpty = false := by
        rw [ByteArray.toList_eq]
        cases hl : file.data.toList with
        | nil => exact absurd (show file.size = 0 from by show file.data.size = 0; rw [← Array.length_toList, hl]; rfl) h0
        | cons _ _ => rfl
      clear e1 e2 HSD h0
      go_wp2
      go_ret
      exact ⟨rfl, (hb1.trans (hb2.mono hz1)).alloc (by omega) _⟩
  · go_enter Ybaf.func4, Ybaf.ntmps4
    go_wp2
    go_ret
    exact ⟨rfl, Below.refl _ _⟩
end Go.Proofs.YbulkexofwFmt
