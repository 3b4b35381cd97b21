/-
  The law up to its fourth loop, where there is a drop.
-/
import Derived.Test.YbulkexohmTail49
import Derived.Test.YbulkexohmBox
import Derived.Deep.RegionHeld3
import Derived.Test.YbulkexohmZ65
import Derived.Test.YbulkexohmEq
import Derived.Test.YbulkexohmRep
import Derived.Test.YbulkexohmExcl
namespace Go.Proofs.Ybulkexohm
open Go.RowKit Go.Maps
set_option linter.unusedVariables false
set_option maxRecDepth 100000 in
set_option maxHeartbeats 8000000 in
theorem law_any (a pa : Option Addr) (DL : List DIn) (PL : List Int) (dc pc : Nat) (ts sq ds : Int) (xn : Nat) (w : World) (hIn : In w a DL pa PL) (hn1 : DL.length ≤ 140737488355328) (hn2 : PL.length ≤ 140737488355328) (hxn : xn ≤ 255) (hD : DL.length ≤ 1048576) (hP : PL.length ≤ 1048576) (hD0 : 0 < DL.length) :
    Calls Yba.prog 3 #[.slice a DL.length dc, .slice pa PL.length pc, .int .u64 ts, .int .u64 sq, .int .u64 ds, .int .u8 xn] w fun e w' => e = .returned (.bool true) ∧ Below w.heap.size w w' := by
  obtain ⟨i9, hi9, hz90, hz91, hz92⟩ := info_parts info9
  obtain ⟨i71, hi71, hz710, hz711, hz712⟩ := info_parts info71
  obtain ⟨i4, hi4, hz40, hz41, hz42⟩ := info_parts info4
  obtain ⟨i24, hi24, hz240, hz241, hz242⟩ := info_parts info24
  obtain ⟨i3, hi3, hz30, hz31, hz32⟩ := info_parts info3
  obtain ⟨Z, hZ, hZs, hZ9, hZ10, hZ53, hZ61, hZ69⟩ := zero65
  have hmm := @run_makeMap Yba.prog
  go_enter Yba.func3, Yba.ntmps3
  go_wp2
  go_loopw [13, 65] (fun t i wr => ∃ k : Nat, k ≤ DL.length ∧ i = .int .i64 k ∧ (∃ x : Int, t = .int .i64 x) ∧ Below w.heap.size w wr) (fun _ i _ => DL.length - (intOf i).toNat)
  case atStart => exact ⟨0, Nat.zero_le _, rfl, ⟨_, rfl⟩, Below.refl _ _⟩
  case round =>
    obtain ⟨k, hk, rfl, ⟨x, rfl⟩, hB⟩ := hrel
    by_cases hlt : k < DL.length
    · obtain ⟨d, hd⟩ : ∃ d, DL[k]? = some d := ⟨_, List.getElem?_eq_getElem hlt⟩
      obtain ⟨g, o, rfl, hg, hat, hsrc, hvl, hkl⟩ := hIn.drop hB hd
      obtain ⟨c0, c1, c2, c3, c4, c5, c6, c7⟩ := hat
      go_wp2
      go_quiet (fail)
      go_wp2
      go_roundw
      case rel => exact ⟨k + 1, hlt, int_eq (by omega), ⟨_, rfl⟩, below_drewN hB _⟩
      case measure => simp [intOf]; omega
    · have ek : k = DL.length := by omega
      by_cases hx : x > 1048576
      · go_wp2
        go_ret
        exact ⟨rfl, hB⟩
      · go_wp2
        clear hk hlt ek
        have h2 := L2.start DL hB
        generalize wr.heap.size = I at h2 ⊢
        generalize wr.alloc (.map #[] 0) = w0 at h2 ⊢
        go_loopw [16, 17, 18, 89] (fun kv lv mv i wr => ∃ (n : Nat) (KS : List ByteArray) (LS : List Nat) (m : Nat), n ≤ DL.length ∧ i = .int .i64 n ∧ mv = .int .i64 m ∧ KS.length ≤ n ∧ (0 < n → 0 < KS.length) ∧ L2 w DL I kv lv m KS LS wr) (fun _ _ _ i _ => DL.length - (intOf i).toNat)
        case atStart => exact ⟨0, [], [], 0, Nat.zero_le _, rfl, rfl, Nat.le_refl _, fun h => h, h2⟩
        case round =>
          obtain ⟨n, KS, LS, m, hn, rfl, rfl, hKn, hK0, hL⟩ := hrel
          by_cases hlt : n < DL.length
          · obtain ⟨d, hd⟩ : ∃ d, DL[n]? = some d := ⟨_, List.getElem?_eq_getElem hlt⟩
            obtain ⟨g, o, rfl, hg, hat, hsrc, hvl, hkl⟩ := hIn.drop hL.below hd
            obtain ⟨c0, c1, c2, c3, c4, c5, c6, c7⟩ := hat
            have hks : d.key.size ≤ maxLen := by unfold maxLen; omega
            have hms := hL.msz
            cases hf : find KS d.key with
            | some j =>
              have hK := find_some hf
              have hjl : j < KS.length := (List.getElem?_eq_some_iff.1 hK).1
              have hlk := (hL.map.look_in (t := 28) (e := 3) (z := .int .i64 0) Yba.underlying28 rfl rfl hks hK (ints_get (i := j) (by simp [hjl]))).1
              have hjL : j < LS.length := by rw [hL.len]; exact hjl
              obtain ⟨lg, lc, rfl, hlg0, hlg⟩ := hL.last.form (by omega)
              have hset : ∃ u, wr.cell? ⟨lg, j, none⟩ = some u := by
                rw [hL.last.cellAt j (by omega)]
                exact ⟨_, List.getElem?_eq_getElem (by rw [ints_length]; exact hjL)⟩
              obtain ⟨u, hu⟩ := hset
              have hfr := hL.last.frozenAt j
              have hLL : LS.length ≤ 1048576 := by rw [hL.len]; omega
              go_wp2
              go_roundw
              case rel =>
                have h3 := L2.old (j := j) hL hlt
                rw [List.length_set] at h3
                exact ⟨n + 1, KS, _, m, hlt, int_eq (by omega), rfl, by omega, fun _ => by omega, h3⟩
              case measure => simp [intOf]; omega
            | none =>
              have hnew := find_none hf
              have hlk := (hL.map.look_out (t := 28) (e := 3) (z := .int .i64 0) Yba.underlying28 rfl rfl hks hnew).1
              have hLL : LS.length = KS.length := hL.len
              obtain ⟨ka, kc, rfl, hka⟩ := row_form hL.keys
              go_wp2_with (first
                | (at_mapUpdate; refine wpList_put rfl (.tmp 108) (.tmp 109) (.tmp 111) 28 3 rfl Yba.underlying28 hL.map rfl (by unfold maxLen; omega) d.key rfl hks hnew (.int .i64 KS.length) (by rfl) _ rfl ?_; intro w1 m1 g1; have hL1 := hL.put m1 g1)
                | (at_builtin; refine wpList_append_lies _ rfl (.tmp 112) (.tmp 114) 29 rfl 0 9 i9 _ 1 16 Yba.underlying29 hi9 hz90 hz91 hz92 rfl (by decide) _ KS.length (KS.map Value.string) rfl (hL1.keys.alloc _) ⟨w1.heap.size, 0, none⟩ 1 1 [.string d.key] rfl rfl (new_at _ _ _) (strs_oneCell [d.key]) (by omega) (by unfold maxLen; omega) (by omega) (Nat.zero_le _) (w1.heap.size + 1) (by simp) ?_; intro g2 cp2 w2 own2 gr2 at2 lt2; have hL2 := hL1.key own2 gr2 at2)
                | (at_builtin; refine wpList_append_lies _ rfl (.tmp 116) (.tmp 118) 30 rfl 0 3 i3 _ 1 8 Yba.underlying30 hi3 hz30 hz31 hz32 rfl (by decide) _ LS.length (ints LS) rfl (hL2.last.alloc _) ⟨w2.heap.size, 0, none⟩ 1 1 (ints [n]) rfl rfl (new_at _ _ _) (by intro u hu; simp [ints] at hu; subst hu; rfl) (by omega) (by unfold maxLen; omega) (by omega) (Nat.zero_le _) (w2.heap.size + 1) (by simp) ?_; intro g3 cp3 w3 own3 gr3 at3 lt3))
              focus
                have h3 := L2a.done (m' := d.key.size) hL hL2 own3 gr3 at3 hlt hkl hkl hnew
                rw [hLL] at h3
                exact ⟨⟨n + 1, _, _, d.key.size, hlt, int_eq (by omega), rfl, by simp; omega, fun _ => by simp, h3⟩, by simp [intOf]; omega⟩
              focus
                have h3 := L2a.done (m' := m) hL hL2 own3 gr3 at3 hlt hkl hms hnew
                rw [hLL] at h3
                exact ⟨⟨n + 1, _, _, m, hlt, int_eq (by omega), rfl, by simp; omega, fun _ => by simp, h3⟩, by simp [intOf]; omega⟩
          · have en : n = DL.length := by omega
            have hK1 : 0 < KS.length := hK0 (by omega)
            clear hK0
            go_upto_region 29 with (fail)
            have hP1 := P1.first hL Z hZs hZ9 hZ10 hZ53 hZ61 hZ69
            generalize hTe : wr.heap.size = T at hP1 ⊢
            generalize wr.alloc (.cells Z 65) = w5 at hP1 ⊢
            obtain ⟨ka, kc, rfl, hka⟩ := row_form hP1.l2.keys
            have hTl := hP1.tab.lt
            obtain ⟨t9, t10, t53, t61, t69, tF⟩ := hP1.tab.cells
            have hP2 := hP1.stores ts sq ds
            have hKl : KS.length ≤ 1048576 := by omega
            have cX := excl_any xn (((w5.setCell ⟨T, 10, none⟩ (.int .u64 ts)).setCell ⟨T, 9, none⟩ (.int .u64 sq)).setCell ⟨T, 69, none⟩ (.int .u64 ds)) hxn
            go_upto_region 33 with (go_at_call 4; refine cX.mono ?_; rintro e w6 ⟨exv, rfl, hX6, hXn, hB6⟩; obtain ⟨xa, xc, rfl, hxa⟩ := row_form hX6; have hP3 := hP2.call hB6; have hTl6 := hP3.tab.lt; obtain ⟨s9, s10, s53, s61, s69, sF⟩ := hP3.tab.cells)
            have hP4 := hP3.excl (.slice xa (base0 xn).length xc)
            have hX7 : XRow (w6.setCell ⟨T, 61, none⟩ (.slice xa (base0 xn).length xc)) (.slice xa (base0 xn).length xc) (base0 xn) := by
              obtain ⟨CT, hCT, _⟩ := id hP3.tab
              exact ((Chg.refl (fun k => k = T) w6).setCell ⟨T, 61, none⟩ _ (fun _ => rfl)).row hX6 (fun k hk e => XRow.type hX6 hCT (by decide) (e ▸ hk))
            have hXN : ∀ k, (Value.slice xa (base0 xn).length xc).ownBlock = some k → w.heap.size ≤ k := fun k hk => Nat.le_trans hP2.l2.below.size (hXn k hk)
            generalize w6.setCell ⟨T, 61, none⟩ (.slice xa (base0 xn).length xc) = w7 at hP4 hX7 ⊢
            clear hP1 hP2 hP3 t9 t10 t53 t61 t69 tF s9 s10 s53 s61 s69 sF cX hX6 hB6 hXn hTl hTl6 hxa
            go_upto_if 158 with (first
              | (at_make; refine wpList_make_full _ rfl (.tmp 148) (.tmp 148) 67 rfl 0 71 i71 (.slice none 0 0) 1 Yba.underlying67 hi71 hz710 hz711 .i64 .i64 _ _ KS.length rfl rfl rfl rfl (by rw [hz712]; omega) (by unfold maxLen; omega) (Nat.zero_le _) ?_; intro w8 o8 g8)
              | (at_make; refine wpList_make_full _ rfl (.tmp 151) (.tmp 151) 68 rfl 0 4 i4 (.bool false) 1 Yba.underlying68 hi4 hz40 hz41 .i64 .i64 _ _ KS.length rfl rfl rfl rfl (by rw [hz42]; omega) (by unfold maxLen; omega) (Nat.zero_le _) ?_; intro w9 o9 g9)
              | (at_make; refine wpList_make_full _ rfl (.tmp 154) (.tmp 154) 69 rfl 0 24 i24 (.int .u64 0) 1 Yba.underlying69 hi24 hz240 hz241 .i64 .i64 _ _ KS.length rfl rfl rfl rfl (by rw [hz242]; omega) (by unfold maxLen; omega) (Nat.zero_le _) ?_; intro w10 o10 g10))
            have hPre := Pre.made hP4.l2 hP4.tab hP4.tabN hX7 hXN o8 g8 o9 g9 o10 g10
            clear o8 g8 o9 g9 o10 g10 hX7 hXN hP4
            generalize (madeCells (Value.slice none 0 0).cells (KS.length * 1)).toList = mvs at hPre
            generalize (madeCells (Value.bool false).cells (KS.length * 1)).toList = mts at hPre
            generalize (madeCells (Value.int IntKind.u64 0).cells (KS.length * 1)).toList = mns at hPre
            generalize w7.heap.size = MV at hPre ⊢
            generalize w8.heap.size = MT at hPre ⊢
            generalize w9.heap.size = MN at hPre ⊢
            generalize (base0 xn).length = xl at hPre ⊢
            obtain ⟨la, lc, rfl, hla⟩ := row_form hPre.l2.last
            have hTl := hPre.tab.lt
            obtain ⟨t9, t10, t53, t61, t69, tF⟩ := hPre.tab.cells
            go_wp2
            have h30 := hPre.start
            generalize w10.heap.size = M at h30 ⊢
            generalize (w10.setCell ⟨T, 53, none⟩ (.map (some M))).alloc (.map #[] 0) = w11 at h30 ⊢
            clear hPre t9 t10 t53 t61 t69 tF hTl
            go_loopw [165] (fun i wr => ∃ n S VS hb g cap mvs mts mns, n ≤ KS.length ∧ i = .int .i64 (n : Nat) ∧ L3 w DL I (.slice ka KS.length kc) (.slice la LS.length lc) m KS LS T M MV MT MN ts sq ds (.slice xa xl xc) (base0 xn) S VS hb g cap mvs mts mns n n wr) (fun i _ => KS.length - (intOf i).toNat)
            case atStart => exact ⟨0, _, _, _, _, _, _, _, _, Nat.zero_le _, rfl, h30⟩
            case round =>
              obtain ⟨n, S, VS, hb, g, cap, mvs, mts, mns, hnK, rfl, h3⟩ := hrel
              by_cases hlt : n < KS.length
              · obtain ⟨s, hs⟩ : ∃ s, KS[n]? = some s := ⟨_, List.getElem?_eq_getElem hlt⟩
                obtain ⟨l, hl⟩ : ∃ l, LS[n]? = some l := ⟨_, List.getElem?_eq_getElem (by rw [h3.l2.len]; exact hlt)⟩
                obtain ⟨d, hd⟩ : ∃ d, DL[l]? = some d := ⟨_, List.getElem?_eq_getElem (h3.l2.lastLt l (List.mem_of_getElem? hl))⟩
                have hh := hists_get hl hd
                obtain ⟨kg, rfl, hkg⟩ := hka hK1
                obtain ⟨lg, rfl, hlg⟩ := hla (by rw [h3.l2.len]; exact hK1)
                obtain ⟨dg, dO, rfl, hdg, hat, hsrc, hvl, hkl⟩ := hIn.drop h3.l2.below hd
                obtain ⟨c0, c1, c2, c3, c4, c5, c6, c7⟩ := hat
                have hsz : s.size ≤ maxLen := by have := h3.l2.ksz s (List.mem_of_getElem? hs); unfold maxLen; omega
                have kc0 : wr.cell? ⟨kg, n, none⟩ = some (.string s) := by rw [h3.l2.keys.cellAt n (by omega), List.getElem?_map, hs]; rfl
                have lc0 : wr.cell? ⟨lg, n, none⟩ = some (.int .i64 l) := by rw [h3.l2.last.cellAt n (by rw [h3.l2.len]; omega)]; exact ints_get hl
                have hkl' : kg < wr.heap.size := (h3.l2.keys.lt kg rfl).2
                have hll' : lg < wr.heap.size := (h3.l2.last.lt lg rfl).2
                have hTl := h3.tab.lt
                obtain ⟨t9, t10, t53, t61, t69, tF⟩ := h3.tab.cells
                have hnL : n < LS.length := by rw [h3.l2.len]; exact hlt
                have hlD : l < DL.length := h3.l2.lastLt l (List.mem_of_getElem? hl)
                go_upto_region 42 with (fail)
                have h3A := h3.same (Chg.alloc (fun _ => False) wr (.cells #[.string d.key, .bool d.nl, .bool d.tr, .int .u64 d.nt, .int .u64 d.wb, .int .u64 d.hs, .int .u64 d.dt, .slice d.sa d.vs.length d.sc] 27))
                have hdA := drop_box wr d
                have hsA := hsrc.below (Below.alloc (Below.refl wr.heap.size wr) (Nat.le_refl _) (.cells #[.string d.key, .bool d.nl, .bool d.tr, .int .u64 d.nt, .int .u64 d.wb, .int .u64 d.hs, .int .u64 d.dt, .slice d.sa d.vs.length d.sc] 27))
                have hmA : wr.heap.size < (wr.alloc (.cells #[.string d.key, .bool d.nl, .bool d.tr, .int .u64 d.nt, .int .u64 d.wb, .int .u64 d.hs, .int .u64 d.dt, .slice d.sa d.vs.length d.sc] 27)).heap.size := by simp
                generalize wr.alloc (.cells #[.string d.key, .bool d.nl, .bool d.tr, .int .u64 d.nt, .int .u64 d.wb, .int .u64 d.hs, .int .u64 d.dt, .slice d.sa d.vs.length d.sc] 27) = wA at h3A hdA hsA hmA ⊢
                have hMd : M < wr.heap.size := h3.map.lt
                have hMVd : MV < wr.heap.size := (h3.model.mv.lt MV rfl).2
                have hMTd : MT < wr.heap.size := (h3.model.mt.lt MT rfl).2
                have hMNd : MN < wr.heap.size := (h3.model.mn.lt MN rfl).2
                have hrap := rows_apart h3.model.mv h3.model.mt h3.model.mn
                generalize hdB : wr.heap.size = dB at hdA hmA hMd hMVd hMTd hMNd ⊢
                have HDA : Hid (DropAt wA dB 0 d) := hdA
                obtain ⟨b0, b1, b2, b3, b4, b5, b6, b7⟩ := hdA
                clear kc0 lc0 c0 c1 c2 c3 c4 c5 c6 c7 t9 t10 t53 t61 t69 tF hTl hdB hdg hkl' hll' hsrc h3 hkg hlg
                have hTl := h3A.tab.lt
                obtain ⟨t9, t10, t53, t61, t69, tF⟩ := h3A.tab.cells
                have hmap := h3A.map
                have hfr := h3A.l2.fresh hs
                cases hnl : d.nl with
                | true =>
                  rw [hnl] at b1
                  have hh' : (hists DL LS)[n]? = some none := by rw [hh]; simp [hist0, hnl]
                  have hKt : (KS.take n).length < maxLen := by rw [List.length_take]; unfold maxLen; omega
                  go_wp2_with (at_mapUpdate; refine wpList_put rfl (.tmp 182) (.tmp 183) (.const (.pointer none)) 57 70 rfl Yba.underlying57 hmap rfl hKt s rfl hsz hfr (.pointer none) (by rfl) _ rfl ?_; intro w1 m1 g1)
                  go_roundw
                  case rel => exact ⟨n + 1, S, _, hb, g, cap, mvs, mts, mns, hlt, int_eq (by omega), h3A.nilKey hs hh' m1 g1⟩
                  case measure => simp [intOf]; omega
                | false =>
                  rw [hnl] at b1
                  obtain ⟨V8, hV8⟩ : ∃ V, V = d.vs.take 8 := ⟨_, rfl⟩
                  have hh' : (hists DL LS)[n]? = some (some ⟨V8, d.tr, d.nt, d.wb, d.hs, d.dt⟩) := by rw [hh, hV8]; simp [hist0, hnl]
                  have h8 : V8.length ≤ 8 := by rw [hV8, List.length_take]; omega
                  have AV : Hid (∀ (W : World), Src W d.sa d.vs → Calls Yba.prog 5 #[.slice d.sa d.vs.length d.sc] W fun e w' => ∃ g, e = .returned (.slice (some ⟨g, 0, none⟩) V8.length V8.length) ∧ VRow w' (.slice (some ⟨g, 0, none⟩) V8.length V8.length) V8 ∧ W.heap.size ≤ g ∧ Below W.heap.size W w') := fun W h => by rw [hV8]; exact avers_src h d.sc hvl
                  clear hV8
                  have cA := AV.out wA.drew (hsA.below (wr := wA.drew) (Below.refl _ _).drew)
                  have hKs : KS.length ≤ 1048576 := hKl
                  have hbox := fun (w1 : World) (g1 : Nat) hB hr hg => h3A.box (w1 := w1) (g1 := g1) hs hsz hKs hh' h8 hB hr hg
                  have HBOX : Hid (∀ _, _) := hbox
                  clear hbox
                  have hKN : n < KS.length := hlt
                  go_wp2
                  go_region_held3 (fun w' => w'.cell? ⟨T, 53, none⟩ = some (.map (some M)) ∧ w'.cell? ⟨dB, 2, none⟩ = some (.bool d.tr) ∧ w'.cell? ⟨dB, 3, none⟩ = some (.int .u64 d.nt) ∧ w'.cell? ⟨dB, 4, none⟩ = some (.int .u64 d.wb) ∧ w'.cell? ⟨dB, 5, none⟩ = some (.int .u64 d.hs) ∧ w'.cell? ⟨dB, 6, none⟩ = some (.int .u64 d.dt) ∧ w'.cell? ⟨dB, 7, none⟩ = some (.slice d.sa d.vs.length d.sc)) (go_keep) (first | (go_at_call 5; refine cA.mono ?_; rintro e w1 ⟨g1, rfl, r1, ge1, bl1⟩; have bl : Below wA.heap.size wA w1 := (Below.refl _ wA).drew.trans bl1; obtain ⟨w3, hrun, ⟨S', hb', g', cap', v', hL3⟩, hch⟩ := HBOX.out w1 g1 bl r1 ge1; obtain ⟨e0, e1, e2, e3, e4, e5, e6, e7⟩ := HDA.out.below bl hmA; obtain ⟨f9, f10, f53, f61, f69, fF⟩ := (h3A.tab.same (bl.block T hTl)).cells; have hm1 : dB < w1.heap.size := Nat.lt_of_lt_of_le hmA bl.size; have hT1 : T < w1.heap.size := Nat.lt_of_lt_of_le hTl bl.size; obtain ⟨q0, q1, q2, q3, q4, q5, q6, q7⟩ := drop_chg HDA.out hch hmA (Nat.ne_of_gt hMd); have q53 := hL3.tab.cells.2.2.1))
                  have hS3 : Src w3 d.sa d.vs := in_src hIn hL3.l2.below hd
                  have cB := AV.out w3 hS3
                  have hd3 : dB < w3.heap.size := Nat.lt_of_lt_of_le hmA hch.size
                  have HD3 : Hid (DropAt w3 dB 0 d) := drop_chg HDA.out hch hmA (Nat.ne_of_gt hMd)
                  have HL3 : Hid (L3 w DL I (.slice (some ⟨kg, 0, none⟩) KS.length kc) (.slice (some ⟨lg, 0, none⟩) LS.length lc) m KS LS T M MV MT MN ts sq ds (.slice xa xl xc) (base0 xn) S' (VS ++ [v']) hb' g' cap' mvs mts mns (n + 1) n w3) := hL3
                  clear hL3 h3A hmap hfr hTl t9 t10 t53 t61 t69 tF b0 b1 b2 b3 b4 b5 b6 b7 cA HBOX HDA hrun r1 ge1 bl1 bl e0 e1 e2 e3 e4 e5 e6 e7 f9 f10 f53 f61 f69 fF hm1 hT1 hch hsA
                  obtain ⟨ra1, ra2, ra3, ra4, ra5, ra6⟩ := hrap
                  have nb1 : dB ≠ MV := Nat.ne_of_gt hMVd
                  have nb2 : dB ≠ MT := Nat.ne_of_gt hMTd
                  have nb3 : dB ≠ MN := Nat.ne_of_gt hMNd
                  go_wp2_with (go_at_call 5; refine cB.mono ?_; rintro e w4 ⟨g4, rfl, r4, ge4, bl4⟩; have h4 := HL3.out.same (Chg.ofBelow bl4 _); obtain ⟨e0, e1, e2, e3, e4, e5, e6, e7⟩ := HD3.out.below bl4 hd3; obtain ⟨y1, hy1⟩ := row_cell h4.model.mv hKN; obtain ⟨y2, hy2⟩ := row_cell h4.model.mt hKN; obtain ⟨y3, hy3⟩ := row_cell h4.model.mn hKN; have z1 := h4.model.mv.frozenAt n; have z2 := h4.model.mt.frozenAt n; have z3 := h4.model.mn.frozenAt n; have l1 := (h4.model.mv.lt MV rfl).2; have l2 := (h4.model.mt.lt MT rfl).2; have l3 := (h4.model.mn.lt MN rfl).2; have l4 := Nat.lt_of_lt_of_le hd3 bl4.size; have H4 : Hid _ := h4; clear h4)
                  go_roundw
                  case rel =>
                    exact ⟨n + 1, _, _, _, _, _, _, _, _, hlt, int_eq (by omega), HL3.out.copy hKN hh' h8 (Chg.ofBelow bl4 _) r4 ge4⟩
                  case measure => simp [intOf]; omega
              · have en : n = KS.length := by omega
                subst en
                have h4 := h3.all (by intro e; rw [e] at hK1; simp at hK1)
                clear h3
                go_upto_region 49 with (fail)
                refine tail49 hIn h4 hxn hD hKl hP _ _ _ _ _ _ _ _ _ _ _ _ _ _ _ _ _ _ _ _ _ _ _ _ _ _ _ _ _ _ _ _ _ _ _ _ _ _ _ _ _ _ _ _ _ _ _ _ _ _ _ _ _ _ _ _ _ _ _ _ _ _ _ _ _ _ _ _ _ _ _ _ _ _ _ _ _ _ _ _ _ _ _ _ _ _ _ _ _ _ _ _ _ _ _ _ _ _ _ _ _ _ _ _ _ _ _ _ _ _ _ _ _ _ _ _ _ _ _ _ _ _ _ _ _ _ _ _ _ _ _ _ _ _ _ _ _ _ _ _ _ _ _ _ _ _ _ _ _ _ _ _ _ _ _ _ _ _ _ _ _ _ _ _ _ _ _ _ _ _ _ _ _ _ _ _ _ _ _ _ _ _ ?_
                assumption
end Go.Proofs.Ybulkexohm
