/-
  The law where there is no drop; where a slice is too long.
-/
import Derived.Test.YbulkexohmTail49
import Derived.Test.YbulkexohmBox
import Derived.Test.YbulkexohmZ65
import Derived.Test.YbulkexohmEq
import Derived.Test.YbulkexohmExcl
namespace Go.Proofs.Ybulkexohm
open Go.RowKit Go.Maps
set_option linter.unusedVariables false
set_option maxRecDepth 100000 in
set_option maxHeartbeats 8000000 in
theorem law_nil (a pa : Option Addr) (PL : List Int) (dc pc : Nat) (ts sq ds : Int) (xn : Nat) (w : World) (hIn : In w a [] pa PL) (hxn : xn ≤ 255) (hP : PL.length ≤ 1048576) :
    Calls Yba.prog 3 #[.slice a 0 dc, .slice pa PL.length pc, .int .u64 ts, .int .u64 sq, .int .u64 ds, .int .u8 xn] w fun e w' => e = .returned (.bool true) ∧ Below w.heap.size w w' := by
  obtain ⟨i71, hi71, hz710, hz711, hz712⟩ := info_parts info71
  obtain ⟨i4, hi4, hz40, hz41, hz42⟩ := info_parts info4
  obtain ⟨i24, hi24, hz240, hz241, hz242⟩ := info_parts info24
  obtain ⟨Z, hZ, hZs, hZ9, hZ10, hZ53, hZ61, hZ69⟩ := zero65
  have hmm := @run_makeMap Yba.prog
  go_enter Yba.func3, Yba.ntmps3
  go_wp2
  go_loopw [13, 65] (fun t i wr => i = .int .i64 0 ∧ t = .int .i64 PL.length ∧ Below w.heap.size w wr) (fun _ _ _ => 0)
  case atStart => exact ⟨rfl, rfl, Below.refl _ _⟩
  case round =>
    obtain ⟨rfl, rfl, hB⟩ := hrel
    go_wp2
    have h2 := L2.start [] hB
    generalize wr.heap.size = I at h2 ⊢
    generalize wr.alloc (.map #[] 0) = w0 at h2 ⊢
    go_loopw [16, 17, 18, 89] (fun kv lv mv i wr => i = .int .i64 0 ∧ kv = .slice none 0 0 ∧ lv = .slice none 0 0 ∧ mv = .int .i64 0 ∧ L2 w [] I (.slice none 0 0) (.slice none 0 0) 0 [] [] wr) (fun _ _ _ _ _ => 0)
    case atStart => exact ⟨rfl, rfl, rfl, rfl, h2⟩
    case round =>
      obtain ⟨rfl, rfl, rfl, rfl, hL⟩ := hrel
      clear h2
      go_upto_region 29 with (fail)
      have hP1 := P1.first hL Z hZs hZ9 hZ10 hZ53 hZ61 hZ69
      generalize hTe : wr.heap.size = T at hP1 ⊢
      generalize wr.alloc (.cells Z 65) = w5 at hP1 ⊢
      have hTl := hP1.tab.lt
      obtain ⟨t9, t10, t53, t61, t69, tF⟩ := hP1.tab.cells
      have hP2 := hP1.stores ts sq ds
      have cX := excl_any xn (((w5.setCell ⟨T, 10, none⟩ (.int .u64 ts)).setCell ⟨T, 9, none⟩ (.int .u64 sq)).setCell ⟨T, 69, none⟩ (.int .u64 ds)) hxn
      go_upto_region 33 with (go_at_call 4; refine cX.mono ?_; rintro e w6 ⟨exv, rfl, hX6, hXn, hB6⟩; obtain ⟨xa, xc, rfl, hxa⟩ := row_form hX6; have hP3 := hP2.call hB6; have hTl6 := hP3.tab.lt; obtain ⟨s9, s10, s53, s61, s69, sF⟩ := hP3.tab.cells)
      have hP4 := hP3.excl (.slice xa (base0 xn).length xc)
      have hX7 : XRow (w6.setCell ⟨T, 61, none⟩ (.slice xa (base0 xn).length xc)) (.slice xa (base0 xn).length xc) (base0 xn) := by
        obtain ⟨CT, hCT, _⟩ := id hP3.tab
        exact ((Chg.refl (fun k => k = T) w6).setCell ⟨T, 61, none⟩ _ (fun _ => rfl)).row hX6 (fun k hk e => XRow.type hX6 hCT (by decide) (e ▸ hk))
      have hXN : ∀ k, (Value.slice xa (base0 xn).length xc).ownBlock = some k → w.heap.size ≤ k := fun k hk => Nat.le_trans hP2.l2.below.size (hXn k hk)
      generalize w6.setCell ⟨T, 61, none⟩ (.slice xa (base0 xn).length xc) = w7 at hP4 hX7 ⊢
      clear hP1 hP2 hP3 t9 t10 t53 t61 t69 tF s9 s10 s53 s61 s69 sF cX hX6 hB6 hXn hTl hTl6 hxa
      go_upto_if 158 with (first
        | (at_make; refine wpList_make_full _ rfl (.tmp 148) (.tmp 148) 67 rfl 0 71 i71 (.slice none 0 0) 1 Yba.underlying67 hi71 hz710 hz711 .i64 .i64 _ _ 0 rfl rfl rfl rfl (by rw [hz712]; omega) (by unfold maxLen; omega) (Nat.zero_le _) ?_; intro w8 o8 g8)
        | (at_make; refine wpList_make_full _ rfl (.tmp 151) (.tmp 151) 68 rfl 0 4 i4 (.bool false) 1 Yba.underlying68 hi4 hz40 hz41 .i64 .i64 _ _ 0 rfl rfl rfl rfl (by rw [hz42]; omega) (by unfold maxLen; omega) (Nat.zero_le _) ?_; intro w9 o9 g9)
        | (at_make; refine wpList_make_full _ rfl (.tmp 154) (.tmp 154) 69 rfl 0 24 i24 (.int .u64 0) 1 Yba.underlying69 hi24 hz240 hz241 .i64 .i64 _ _ 0 rfl rfl rfl rfl (by rw [hz242]; omega) (by unfold maxLen; omega) (Nat.zero_le _) ?_; intro w10 o10 g10))
      have hPre := Pre.made hP4.l2 hP4.tab hP4.tabN hX7 hXN o8 g8 o9 g9 o10 g10
      have h4 := hPre.empty rfl
      clear o8 g8 o9 g9 o10 g10 hX7 hXN hP4 hPre
      go_upto_region 49 with (fail)
      refine tail49 (DL := []) (KS := []) (LS := []) (ka := none) (kc := 0) (la := none) (lc := 0) hIn h4 hxn (Nat.zero_le _) (Nat.zero_le _) hP _ _ _ _ _ _ _ _ _ _ _ _ _ _ _ _ _ _ _ _ _ _ _ _ _ _ _ _ _ _ _ _ _ _ _ _ _ _ _ _ _ _ _ _ _ _ _ _ _ _ _ _ _ _ _ _ _ _ _ _ _ _ _ _ _ _ _ _ _ _ _ _ _ _ _ _ _ _ _ _ _ _ _ _ _ _ _ _ _ _ _ _ _ _ _ _ _ _ _ _ _ _ _ _ _ _ _ _ _ _ _ _ _ _ _ _ _ _ _ _ _ _ _ _ _ _ _ _ _ _ _ _ _ _ _ _ _ _ _ _ _ _ _ _ _ _ _ _ _ _ _ _ _ _ _ _ _ _ _ _ _ _ _ _ _ _ _ _ _ _ _ _ _ _ _ _ _ _ _ _ _ _ ?_
      assumption
set_option maxRecDepth 100000 in
set_option maxHeartbeats 8000000 in
theorem law_long1 (a pa : Option Addr) (dn dc pn pc : Nat) (ts sq ds : Int) (xn : Nat) (w : World) (h : (1048576 : Int) < (dn : Int)) :
    Calls Yba.prog 3 #[.slice a dn dc, .slice pa pn pc, .int .u64 ts, .int .u64 sq, .int .u64 ds, .int .u8 xn] w fun e w' => e = .returned (.bool true) ∧ Below w.heap.size w w' := by
  go_enter Yba.func3, Yba.ntmps3
  go_wp2
  go_ret
  exact ⟨rfl, Below.refl _ _⟩
set_option maxRecDepth 100000 in
set_option maxHeartbeats 8000000 in
theorem law_long2 (a pa : Option Addr) (dn dc pn pc : Nat) (ts sq ds : Int) (xn : Nat) (w : World) (hd : (dn : Int) ≤ 1048576) (h : (1048576 : Int) < (pn : Int)) :
    Calls Yba.prog 3 #[.slice a dn dc, .slice pa pn pc, .int .u64 ts, .int .u64 sq, .int .u64 ds, .int .u8 xn] w fun e w' => e = .returned (.bool true) ∧ Below w.heap.size w w' := by
  go_enter Yba.func3, Yba.ntmps3
  go_wp2
  go_ret
  exact ⟨rfl, Below.refl _ _⟩
end Go.Proofs.Ybulkexohm
