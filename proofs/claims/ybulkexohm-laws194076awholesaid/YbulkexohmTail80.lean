/-
  The law from undoDrops to its end.
-/
import Derived.Test.YbulkexohmCut
import Derived.Test.YbulkexohmSmall
import Derived.BigQuiet
import Derived.Deep.Cut
import Derived.Deep.RegionHeld3
namespace Go.Proofs.Ybulkexohm
open Go.RowKit Go.Maps
set_option linter.unusedVariables false
set_option maxRecDepth 100000 in
set_option maxHeartbeats 8000000 in
theorem tail80 {w : World} {a pa : Option Addr} {DL : List DIn} {PL : List Int} {dc I : Nat} {ka la : Option Addr} {kc lc m : Nat} {KS : List ByteArray} {LS : List Nat} {T MV MT MN : Nat} {ts sq ds : Int} {dm exv : Value} {xn : Nat} {S : Nat → Prop} {VS : List Value} {hb g cap : Nat → Nat} {mvs mts mns : List Value} {wr : World} {SB : Nat} {SS : List ByteArray} {cv ev : Value} {st : St}
    (hIn : In w a DL pa PL) (h : L5 w DL I (.slice ka KS.length kc) (.slice la LS.length lc) m KS LS T dm MV MT MN ts sq ds exv (base0 xn) S VS hb g cap SB SS cv ev mvs mts mns st wr) (hst : St.run ts sq KS ⟨hists DL LS, ds, base0 xn⟩ SS = st) (hxn : xn ≤ 255) (hD : DL.length ≤ 1048576) (hKl : KS.length ≤ 1048576) (hS : SS.length ≤ 1048576) (hsz : ∀ s ∈ SS, s.size ≤ maxLen)
    (u1 u4 u5 u12 u13 u14 u15 u18 u19 u20 u21 u22 u27 u28 u29 u30 u32 u33 u34 u38 u39 u40 u41 u42 u43 u50 u51 u52 u53 u54 u55 u56 u57 u58 u59 u60 u61 u62 u63 u64 u65 u66 u67 u68 u69 u70 u71 u72 u73 u74 u75 u76 u77 u78 u79 u80 u81 u82 u83 u84 u85 u86 u87 u88 u89 u90 u91 u92 u93 u94 u95 u96 u97 u98 u99 u100 u101 u102 u103 u104 u105 u106 u107 u108 u109 u110 u111 u112 u113 u114 u115 u116 u117 u118 u119 u120 u121 u122 u123 u124 u125 u126 u127 u128 u129 u130 u131 u132 u133 u134 u135 u136 u137 u138 u139 u140 u141 u142 u143 u144 u145 u146 u147 u148 u149 u150 u151 u152 u153 u154 u155 u156 u157 u158 u159 u160 u161 u162 u163 u164 u165 u166 u167 u168 u169 u170 u171 u172 u173 u174 u175 u176 u177 u178 u179 u180 u181 u182 u183 u184 u185 u186 u187 u188 u189 u190 u191 u192 u193 u194 u195 u196 u197 u198 u199 u200 u201 u202 u203 u204 u205 u206 u207 u208 u209 u210 u211 u212 u213 u214 u215 u216 u217 u218 u219 u220 u221 u222 u223 u224 u225 u226 u227 u228 u229 u230 u231 u232 u233 u234 u235 u236 u237 u238 u239 u240 u241 u242 u243 u244 u245 u246 u247 u248 u249 u250 u251 u252 u253 u254 u255 u256 u257 u258 u259 u260 u261 u262 u263 u264 u265 u266 u267 u268 u269 u270 u271 u272 u273 u274 u275 u276 u277 u278 u279 u280 u281 u282 u283 u284 u285 u286 u287 u288 u289 u290 u291 u292 u293 u294 u295 u296 u297 u298 u299 u300 u301 u302 u303 u304 u305 u306 u307 u308 u309 u310 u311 u312 u313 u314 u315 u316 u317 u318 u319 u320 u321 u322 u323 u324 u325 u326 u327 u328 u329 u330 u331 u332 u333 u334 u335 u336 u337 u338 u339 u340 u341 u342 u343 u344 u345 u346 : Value) :
    ∀ K : Act → World → Prop, (∀ b w', Code.wp Yba.prog (cutOf Yba.f3.body 80).2 (Says w) b w' → K b w') → Code.wp Yba.prog (cutOf Yba.f3.body 80).1 (Exit.then K (Says w)) ⟨#[.slice a DL.length dc, u1, .int .u64 ts, .int .u64 sq, u4, u5, undef, undef, undef, undef, undef, undef, u12, u13, u14, u15, .slice ka KS.length kc, .slice la LS.length lc, u18, u19, u20, u21, u22, .pointer (some ⟨T, 0, none⟩), .slice (some ⟨MV, 0, none⟩) KS.length KS.length, .slice (some ⟨MT, 0, none⟩) KS.length KS.length, .slice (some ⟨MN, 0, none⟩) KS.length KS.length, u27, u28, u29, u30, .slice (some ⟨SB, 0, none⟩) SS.length SS.length, u32, u33, u34, cv, ev, .int .u64 st.ds, u38, u39, u40, u41, u42, u43, undef, undef, undef, undef, undef, undef, u50, u51, u52, u53, u54, u55, u56, u57, u58, u59, u60, u61, u62, u63, u64, u65, u66, u67, u68, u69, u70, u71, u72, u73, u74, u75, u76, u77, u78, u79, u80, u81, u82, u83, u84, u85, u86, u87, u88, u89, u90, u91, u92, u93, u94, u95, u96, u97, u98, u99, u100, u101, u102, u103, u104, u105, u106, u107, u108, u109, u110, u111, u112, u113, u114, u115, u116, u117, u118, u119, u120, u121, u122, u123, u124, u125, u126, u127, u128, u129, u130, u131, u132, u133, u134, u135, u136, u137, u138, u139, u140, u141, u142, u143, u144, u145, u146, u147, u148, u149, u150, u151, u152, u153, u154, u155, u156, u157, u158, u159, u160, u161, u162, u163, u164, u165, u166, u167, u168, u169, u170, u171, u172, u173, u174, u175, u176, u177, u178, u179, u180, u181, u182, u183, u184, u185, u186, u187, u188, u189, u190, u191, u192, u193, u194, u195, u196, u197, u198, u199, u200, u201, u202, u203, u204, u205, u206, u207, u208, u209, u210, u211, u212, u213, u214, u215, u216, u217, u218, u219, u220, u221, u222, u223, u224, u225, u226, u227, u228, u229, u230, u231, u232, u233, u234, u235, u236, u237, u238, u239, u240, u241, u242, u243, u244, u245, u246, u247, u248, u249, u250, u251, u252, u253, u254, u255, u256, u257, u258, u259, u260, u261, u262, u263, u264, u265, u266, u267, u268, u269, u270, u271, u272, u273, u274, u275, u276, u277, u278, u279, u280, u281, u282, u283, u284, u285, u286, u287, u288, u289, u290, u291, u292, u293, u294, u295, u296, u297, u298, u299, u300, u301, u302, u303, u304, u305, u306, u307, u308, u309, u310, u311, u312, u313, u314, u315, u316, u317, u318, u319, u320, u321, u322, u323, u324, u325, u326, u327, u328, u329, u330, u331, u332, u333, u334, u335, u336, u337, u338, u339, u340, u341, u342, u343, u344, u345, u346, undef, undef, undef, undef, undef, undef, undef, undef, undef, undef, undef, undef, undef, undef, undef, undef, undef, undef, undef, undef, undef, undef, undef, undef, undef, undef, undef, undef, undef, undef, undef, undef, undef, undef, undef, undef, undef, undef, undef, undef, undef, undef, undef, undef, undef, undef, undef, undef, undef, undef, undef, undef, undef, undef, undef, undef, undef, undef, undef, undef, undef, undef, undef, undef, undef, undef, undef, undef, undef, undef, undef, undef, undef, undef, undef, undef, undef, undef, undef, undef, undef, undef, undef, undef, undef, undef, undef, undef, undef, undef, undef, undef, undef, undef, undef, undef, undef, undef, undef, undef, undef, undef, undef, undef, undef, undef, undef, undef, undef, undef, undef, undef, undef, undef, undef, undef, undef, undef, undef, undef, undef, undef, undef, undef, undef, undef, undef, undef, undef, undef, undef, undef, undef, undef, undef, undef, undef, undef, undef, undef, undef, undef, undef, undef, undef, undef, undef, undef, undef, undef, undef, undef, undef, undef, undef, undef, undef, undef, undef, undef, undef, undef, undef, undef, undef, undef, undef, undef, undef, undef], []⟩ wr := by
  have e : cutOf Yba.f3.body 80 = (_, _) := rfl
  rw [e]
  dsimp only
  clear e
  intro K hK
  have cU := undo_any (h.real wr.heap.size) h.sch h.schS hsz hS (by show (base0 xn).length ≤ 255; rw [base0_length]; exact hxn)
  rw [hst] at cU
  have hex : st.ex.length ≤ 3000000 := by
    have h1 := run_ex ts sq KS SS ⟨hists DL LS, ds, base0 xn⟩
    rw [hst] at h1
    have h2 : (base0 xn).length = xn := base0_length xn
    have h3 : st.ex.length ≤ (base0 xn).length + SS.length := h1
    omega
  have hlike : Hid (∀ j l d, LS[j]? = some l → DL[l]? = some d → ∃ o, st.hs[j]? = some o ∧ Like (hist0 d) o) := fun j l d h1 h2 => by
    rw [← hst]
    exact run_like ts sq KS SS ⟨hists DL LS, ds, base0 xn⟩ (hists_get h1 h2)
  clear hst
  go_upto_region 83 with (first
    | (go_at_call 8; refine cU.mono ?_; rintro e w1 ⟨rfl, g', cap', exv', hR, hC⟩; have h6 := h.undone hR hC; have cE := eqs_any _ cv SS w1 (by omega) h6.sch h6.cpy; clear hR hC)
    | (go_at_call 9; refine cE.mono ?_; rintro e w2 ⟨rfl, hc2⟩; have h7 := h6.same hc2))
  clear cU cE h6 hc2 h
  have hTl := h7.tab.lt
  obtain ⟨t9, t10, t53, t61, t69, tF⟩ := h7.tab.cells
  have cX := eqx_any exv' ev st.ex w2 hex h7.row h7.exp
  go_upto_region 87 with (go_at_call 10; refine cX.mono ?_; rintro e w3 ⟨rfl, hc3⟩; have h8 := h7.same hc3)
  clear t9 t10 t53 t61 t69 tF hTl cX h7 hc3
  have hTl := h8.tab.lt
  obtain ⟨t9, t10, t53, t61, t69, tF⟩ := h8.tab.cells
  by_cases hK0 : KS = []
  · have hdm := h8.nil hK0
    subst hdm
    subst hK0
    have hmn := run_eql_map_nil (P := Yba.prog) w3 57 9 70 none Yba.underlying57
    go_wp2
    unfold Says
    go_ret
    exact ⟨rfl, h8.l2.below⟩
  · have hK1 : 0 < KS.length := List.length_pos_iff.2 hK0
    obtain ⟨M, rfl, hM⟩ : ∃ M, dm = .map (some M) ∧ MapIs w3 M KS VS := by
      rcases h8.drops with ⟨_, e, _⟩ | ⟨M, e, hM, _⟩
      · exact absurd e hK0
      · exact ⟨M, e, hM⟩
    have hlen := fun ty => hM.len (t := 57) (e := 70) Yba.underlying57 ty
    have hKz : ((KS.length : Int) == 0) = false := by simp only [beq_eq_false_iff_ne]; omega
    go_wp2
    try simp only [hKz]
    clear hKz
    clear t9 t10 t53 t61 t69 tF hTl hlen hM hK0
    go_loopw [402] (fun i wr => ∃ n : Nat, n ≤ KS.length ∧ i = .int .i64 n ∧ L6 w DL I (.slice ka KS.length kc) (.slice la LS.length lc) m KS LS T (.map (some M)) MV MT MN ts sq exv' VS SB SS cv ev mvs mts mns st wr) (fun i _ => KS.length - (intOf i).toNat)
    case atStart => exact ⟨0, Nat.zero_le _, rfl, h8⟩
    case round =>
      obtain ⟨n, hnK, rfl, h6⟩ := hrel
      clear h8
      by_cases hlt : n < KS.length
      · obtain ⟨s, hs⟩ : ∃ s, KS[n]? = some s := ⟨_, List.getElem?_eq_getElem hlt⟩
        obtain ⟨l, hl⟩ : ∃ l, LS[n]? = some l := ⟨_, List.getElem?_eq_getElem (by rw [h6.l2.len]; exact hlt)⟩
        have hlD : l < DL.length := h6.l2.lastLt l (List.mem_of_getElem? hl)
        obtain ⟨d, hd⟩ : ∃ d, DL[l]? = some d := ⟨_, List.getElem?_eq_getElem hlD⟩
        obtain ⟨o, ho, hLk⟩ := hlike.out n l d hl hd
        obtain ⟨ka0, kc0', hke, hka⟩ := row_form h6.l2.keys
        cases hke
        obtain ⟨la0, lc0', hle, hla⟩ := row_form h6.l2.last
        cases hle
        obtain ⟨kg, rfl, hkg⟩ := hka hK1
        obtain ⟨lg, rfl, hlg⟩ := hla (by rw [h6.l2.len]; exact hK1)
        obtain ⟨dg, dO, rfl, hdg, hat, hsrc, hvl, hkl⟩ := hIn.drop h6.l2.below hd
        obtain ⟨c0, c1, c2, c3, c4, c5, c6, c7⟩ := hat
        have hsz' : s.size ≤ maxLen := by have := h6.l2.ksz s (List.mem_of_getElem? hs); unfold maxLen; omega
        have kc0 : wr.cell? ⟨kg, n, none⟩ = some (.string s) := by rw [h6.l2.keys.cellAt n (by omega), List.getElem?_map, hs]; rfl
        have lc0 : wr.cell? ⟨lg, n, none⟩ = some (.int .i64 l) := by rw [h6.l2.last.cellAt n (by rw [h6.l2.len]; omega)]; exact ints_get hl
        have hnL : n < LS.length := by rw [h6.l2.len]; exact hlt
        have hTl := h6.tab.lt
        obtain ⟨t9, t10, t53, t61, t69, tF⟩ := h6.tab.cells
        obtain ⟨M', hMe, hM⟩ : ∃ M', Value.map (some M) = .map (some M') ∧ MapIs wr M' KS VS := by
          rcases h6.drops with ⟨e, _⟩ | ⟨M', e, hM, _⟩
          · cases e
          · exact ⟨M', e, hM⟩
        cases hMe
        cases hnl : d.nl with
        | true =>
          rw [hnl] at c1
          have ho' : st.hs[n]? = some none := by
            simp only [hist0, hnl, if_true] at hLk
            cases o with
            | none => exact ho
            | some x => exact hLk.elim
          have hlk := (hM.look_in (t := 57) (e := 70) (z := .pointer none) Yba.underlying57 rfl rfl hsz' hs (h6.gone ho')).1
          go_wp2
          exact ⟨⟨n + 1, hlt, int_eq (by omega), h6.same (Chg.alloc _ _ _)⟩, by simp [intOf]; omega⟩
        | false =>
          rw [hnl] at c1
          obtain ⟨x, ho', hwb, hhs, hdt⟩ : ∃ x, st.hs[n]? = some (some x) ∧ x.wb = d.wb ∧ x.hs = d.hs ∧ x.dt = d.dt := by
            simp only [hist0, hnl] at hLk
            cases o with
            | none => exact hLk.elim
            | some x => exact ⟨x, ho, hLk⟩
          obtain ⟨H, G, C, g0, o0, cp0, v1, h8, hcmp⟩ := h6.cmp ho' hlt d
          have hlk := (hM.look_in (t := 57) (e := 70) (z := .pointer none) Yba.underlying57 rfl rfl hsz' hs v1).1
          go_upto_region 101 with (fail)
          have h6A := h6.same (Chg.alloc (fun _ => False) wr (.cells #[.string d.key, .bool d.nl, .bool d.tr, .int .u64 d.nt, .int .u64 d.wb, .int .u64 d.hs, .int .u64 d.dt, .slice d.sa d.vs.length d.sc] 27))
          rw [hnl] at hcmp h6A
          generalize wr.alloc (.cells #[.string d.key, .bool false, .bool d.tr, .int .u64 d.nt, .int .u64 d.wb, .int .u64 d.hs, .int .u64 d.dt, .slice d.sa d.vs.length d.sc] 27) = wA at hcmp h6A ⊢
          generalize wr.heap.size = dB at hcmp ⊢
          clear c0 c1 c2 c3 c4 c5 c6 c7 kc0 lc0 t9 t10 t53 t61 t69 tF hTl hdg hka hla hsrc hM hlk h6 hkg hlg v1
          obtain ⟨p0, p1, p2, p3, p4, p5, pF⟩ := hcmp.hist.at_.cells
          obtain ⟨l1, l2, l3, l4⟩ := hcmp.lts
          have m1 := hcmp.mv
          have hHl := hcmp.hist.lt.1
          have hlt' : (n : Int) < (KS.length : Int) := by omega
          go_quiet (fail)
          go_wp2
          have hcs : Chg (fun _ => False) wA (wA.drewN nq) := (Chg.refl _ wA).drewN nq
          have h6B := h6A.same hcs
          have hcB := hcmp.same hcs
          clear p0 p1 p2 p3 p4 p5 pF l1 l2 l3 l4 m1 hHl hcs h6A hcmp
          generalize wA.drewN nq = wB at h6B hcB ⊢
          go_loopw [449] (fun i wr => ∃ k : Nat, k ≤ x.vs.length ∧ i = .int .i64 k ∧ L6 w DL I (.slice (some ⟨kg, 0, none⟩) KS.length kc) (.slice (some ⟨lg, 0, none⟩) LS.length lc) m KS LS T (.map (some M)) MV MT MN ts sq exv' VS SB SS cv ev mvs mts mns st wr ∧ Cmp MV MT MN n H G C g0 o0 cp0 dB x d wr) (fun i _ => x.vs.length - (intOf i).toNat)
          case atStart => exact ⟨0, Nat.zero_le _, rfl, h6B, hcB⟩
          case round =>
            obtain ⟨k, hk, rfl, h6C, hcC⟩ := hrel
            clear h6B hcB
            obtain ⟨p0, p1, p2, p3, p4, p5, pF⟩ := hcC.hist.at_.cells
            obtain ⟨l1, l2, l3, l4⟩ := hcC.lts
            have m1 := hcC.mv
            have hHl := hcC.hist.lt.1
            have hGl := hcC.hist.lt.2
            have hgl := hcC.lt
            by_cases hlk : k < x.vs.length
            · obtain ⟨v, hv⟩ : ∃ v, x.vs[k]? = some v := ⟨_, List.getElem?_eq_getElem hlk⟩
              obtain ⟨e0, e1, e2, e3, e4, e5, e6, e7, e8, e9⟩ := VRow.at hcC.hist.row hv
              obtain ⟨f0, f1, f2, f3, f4, f5, f6, f7, f8, f9⟩ := hcC.vers k v hv
              have cV := veq_any v wr.drew
              have hlk' : (k : Int) < (x.vs.length : Int) := by omega
              go_upto_region 106 with (fail)
              go_region_held3 (fun w' => w'.cell? ⟨H, 0, none⟩ = some (.slice (some ⟨G, 0, none⟩) x.vs.length C) ∧ w'.cell? ⟨MV, n, none⟩ = some (.slice (some ⟨g0, o0, none⟩) x.vs.length cp0) ∧ w'.cell? ⟨G, k * 10, none⟩ = some (.int .u64 v.ts) ∧ w'.cell? ⟨G, k * 10 + 1, none⟩ = some (.int .u64 v.sq) ∧ w'.cell? ⟨G, k * 10 + 2, none⟩ = some (.string v.sc) ∧ w'.cell? ⟨G, k * 10 + 3, none⟩ = some (.string v.tb) ∧ w'.cell? ⟨G, k * 10 + 4, none⟩ = some (.pointer none) ∧ w'.cell? ⟨G, k * 10 + 5, none⟩ = some (.bool v.dr) ∧ w'.cell? ⟨G, k * 10 + 6, none⟩ = some (.bool false) ∧ w'.cell? ⟨G, k * 10 + 7, none⟩ = some (.bool false) ∧ w'.cell? ⟨G, k * 10 + 8, none⟩ = some (.int .u64 0) ∧ w'.cell? ⟨G, k * 10 + 9, none⟩ = some (.slice none 0 0) ∧ w'.cell? ⟨g0, o0 + k * 10, none⟩ = some (.int .u64 v.ts) ∧ w'.cell? ⟨g0, o0 + k * 10 + 1, none⟩ = some (.int .u64 v.sq) ∧ w'.cell? ⟨g0, o0 + k * 10 + 2, none⟩ = some (.string v.sc) ∧ w'.cell? ⟨g0, o0 + k * 10 + 3, none⟩ = some (.string v.tb) ∧ w'.cell? ⟨g0, o0 + k * 10 + 4, none⟩ = some (.pointer none) ∧ w'.cell? ⟨g0, o0 + k * 10 + 5, none⟩ = some (.bool v.dr) ∧ w'.cell? ⟨g0, o0 + k * 10 + 6, none⟩ = some (.bool false) ∧ w'.cell? ⟨g0, o0 + k * 10 + 7, none⟩ = some (.bool false) ∧ w'.cell? ⟨g0, o0 + k * 10 + 8, none⟩ = some (.int .u64 0) ∧ w'.cell? ⟨g0, o0 + k * 10 + 9, none⟩ = some (.slice none 0 0)) (go_keep) (first | (go_at_call 11; refine cV.mono ?_; rintro e w2 ⟨rfl, hb2⟩; have hc2 : Chg (fun _ => False) wr w2 := (Chg.refl _ wr).drew.trans (Chg.ofBelow hb2 _); have h6D := h6C.same hc2; have hcD := hcC.same hc2; obtain ⟨p0, p1, p2, p3, p4, p5, pF⟩ := hcD.hist.at_.cells; have m1 := hcD.mv; obtain ⟨e0, e1, e2, e3, e4, e5, e6, e7, e8, e9⟩ := VRow.at hcD.hist.row hv; obtain ⟨f0, f1, f2, f3, f4, f5, f6, f7, f8, f9⟩ := hcD.vers k v hv))
              go_wp2
              exact ⟨⟨k + 1, hlk, int_eq (by omega), h6D, hcD⟩, by simp [intOf]; omega⟩
            · have ek : k = x.vs.length := by omega
              have m2 := hcC.mt
              have m3 := hcC.mn
              obtain ⟨b0, b1, b2, b3, b4, b5, b6, b7⟩ := hcC.drop
              rw [← hwb] at b4
              rw [← hhs] at b5
              rw [← hdt] at b6
              have H6 : Hid (L6 w DL I (.slice (some ⟨kg, 0, none⟩) KS.length kc) (.slice (some ⟨lg, 0, none⟩) LS.length lc) m KS LS T (.map (some M)) MV MT MN ts sq exv' VS SB SS cv ev mvs mts mns st wr) := h6C
              clear h6C hcC hwb hhs hdt ho' ho hLk hnl
              go_upto_region 109 with (fail)
              go_quiet (fail)
              go_wp2
              exact ⟨⟨n + 1, hlt, int_eq (by omega), H6.out.same ((Chg.refl _ wr).drewN _)⟩, by simp [intOf]; omega⟩
      · have en : n = KS.length := by omega
        go_wp2
        unfold Says
        go_ret
        exact ⟨rfl, h6.l2.below⟩

end Go.Proofs.Ybulkexohm
