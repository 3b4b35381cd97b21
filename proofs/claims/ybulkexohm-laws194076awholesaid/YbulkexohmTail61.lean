/-
  The law from its fifth loop to its end.
-/
import Derived.Test.YbulkexohmTail80
import Derived.Test.YbulkexohmEach
import Derived.ArgAppend
import Derived.Test.YbulkexohmHold
namespace Go.Proofs.Ybulkexohm
open Go.RowKit Go.Maps
set_option linter.unusedVariables false
set_option maxRecDepth 100000 in
set_option maxHeartbeats 8000000 in
theorem tail61 {w : World} {a pa : Option Addr} {DL : List DIn} {PL : List Int} {dc I : Nat} {ka la : Option Addr} {kc lc m : Nat} {KS : List ByteArray} {LS : List Nat} {T MV MT MN : Nat} {ts sq ds : Int} {dm exv : Value} {xn : Nat} {S : Nat → Prop} {VS : List Value} {hb g cap : Nat → Nat} {mvs mts mns : List Value} {wr : World} {SB : Nat} {SS : List ByteArray} {cv ev : Value}
    (hIn : In w a DL pa PL) (h : L5 w DL I (.slice ka KS.length kc) (.slice la LS.length lc) m KS LS T dm MV MT MN ts sq ds exv (base0 xn) S VS hb g cap SB SS cv ev mvs mts mns ⟨hists DL LS, ds, base0 xn⟩ wr) (hxn : xn ≤ 255) (hD : DL.length ≤ 1048576) (hKl : KS.length ≤ 1048576) (hS : SS.length ≤ 1048576) (hsz : ∀ s ∈ SS, s.size ≤ maxLen)
    (u1 u5 u12 u13 u14 u18 u19 u20 u21 u22 u27 u28 u29 u30 u32 u33 u34 u50 u51 u52 u53 u54 u55 u56 u57 u58 u59 u60 u61 u62 u63 u64 u65 u66 u67 u68 u69 u70 u71 u72 u73 u74 u75 u76 u77 u78 u79 u80 u81 u82 u83 u84 u85 u86 u87 u88 u89 u90 u91 u92 u93 u94 u95 u96 u97 u98 u99 u100 u101 u102 u103 u104 u105 u106 u107 u108 u109 u110 u111 u112 u113 u114 u115 u116 u117 u118 u119 u120 u121 u122 u123 u124 u125 u126 u127 u128 u129 u130 u131 u132 u133 u134 u135 u136 u137 u138 u139 u140 u141 u142 u143 u144 u145 u146 u147 u148 u149 u150 u151 u152 u153 u154 u155 u156 u157 u158 u159 u160 u161 u162 u163 u164 u165 u166 u167 u168 u169 u170 u171 u172 u173 u174 u175 u176 u177 u178 u179 u180 u181 u182 u183 u184 u185 u186 u187 u188 u189 u190 u191 u192 u193 u194 u195 u196 u197 u198 u199 u200 u201 u202 u203 u204 u205 u206 u207 u208 u209 u210 u211 u212 u213 u214 u215 u216 u217 u218 u219 u220 u221 u222 u223 u224 u225 u226 u227 u228 u229 u230 u231 u232 u233 u234 u235 u236 u237 u238 u239 u240 u241 u242 u243 u244 u245 u246 u247 u248 u249 u250 u251 u252 u253 u254 u255 u256 u257 u258 u259 : Value) :
    ∀ K : Act → World → Prop, (∀ b w', Code.wp Yba.prog (cutOf Yba.f3.body 61).2 (Says w) b w' → K b w') → Code.wp Yba.prog (cutOf Yba.f3.body 61).1 (Exit.then K (Says w)) ⟨#[.slice a DL.length dc, u1, .int .u64 ts, .int .u64 sq, .int .u64 ds, u5, undef, undef, undef, undef, undef, undef, u12, u13, u14, .map (some I), .slice ka KS.length kc, .slice la LS.length lc, u18, u19, u20, u21, u22, .pointer (some ⟨T, 0, none⟩), .slice (some ⟨MV, 0, none⟩) KS.length KS.length, .slice (some ⟨MT, 0, none⟩) KS.length KS.length, .slice (some ⟨MN, 0, none⟩) KS.length KS.length, u27, u28, u29, u30, .slice (some ⟨SB, 0, none⟩) SS.length SS.length, u32, u33, u34, cv, ev, undef, undef, undef, undef, undef, undef, undef, undef, undef, undef, undef, undef, undef, u50, u51, u52, u53, u54, u55, u56, u57, u58, u59, u60, u61, u62, u63, u64, u65, u66, u67, u68, u69, u70, u71, u72, u73, u74, u75, u76, u77, u78, u79, u80, u81, u82, u83, u84, u85, u86, u87, u88, u89, u90, u91, u92, u93, u94, u95, u96, u97, u98, u99, u100, u101, u102, u103, u104, u105, u106, u107, u108, u109, u110, u111, u112, u113, u114, u115, u116, u117, u118, u119, u120, u121, u122, u123, u124, u125, u126, u127, u128, u129, u130, u131, u132, u133, u134, u135, u136, u137, u138, u139, u140, u141, u142, u143, u144, u145, u146, u147, u148, u149, u150, u151, u152, u153, u154, u155, u156, u157, u158, u159, u160, u161, u162, u163, u164, u165, u166, u167, u168, u169, u170, u171, u172, u173, u174, u175, u176, u177, u178, u179, u180, u181, u182, u183, u184, u185, u186, u187, u188, u189, u190, u191, u192, u193, u194, u195, u196, u197, u198, u199, u200, u201, u202, u203, u204, u205, u206, u207, u208, u209, u210, u211, u212, u213, u214, u215, u216, u217, u218, u219, u220, u221, u222, u223, u224, u225, u226, u227, u228, u229, u230, u231, u232, u233, u234, u235, u236, u237, u238, u239, u240, u241, u242, u243, u244, u245, u246, u247, u248, u249, u250, u251, u252, u253, u254, u255, u256, u257, u258, u259, undef, undef, undef, undef, undef, undef, undef, undef, undef, undef, undef, undef, undef, undef, undef, undef, undef, undef, undef, undef, undef, undef, undef, undef, undef, undef, undef, undef, undef, undef, undef, undef, undef, undef, undef, undef, undef, undef, undef, undef, undef, undef, undef, undef, undef, undef, undef, undef, undef, undef, undef, undef, undef, undef, undef, undef, undef, undef, undef, undef, undef, undef, undef, undef, undef, undef, undef, undef, undef, undef, undef, undef, undef, undef, undef, undef, undef, undef, undef, undef, undef, undef, undef, undef, undef, undef, undef, undef, undef, undef, undef, undef, undef, undef, undef, undef, undef, undef, undef, undef, undef, undef, undef, undef, undef, undef, undef, undef, undef, undef, undef, undef, undef, undef, undef, undef, undef, undef, undef, undef, undef, undef, undef, undef, undef, undef, undef, undef, undef, undef, undef, undef, undef, undef, undef, undef, undef, undef, undef, undef, undef, undef, undef, undef, undef, undef, undef, undef, undef, undef, undef, undef, undef, undef, undef, undef, undef, undef, undef, undef, undef, undef, undef, undef, undef, undef, undef, undef, undef, undef, undef, undef, undef, undef, undef, undef, undef, undef, undef, undef, undef, undef, undef, undef, undef, undef, undef, undef, undef, undef, undef, undef, undef, undef, undef, undef, undef, undef, undef, undef, undef, undef, undef, undef, undef, undef, undef, undef, undef, undef, undef, undef, undef, undef, undef, undef, undef, undef, undef, undef, undef, undef, undef, undef, undef, undef, undef, undef, undef, undef, undef, undef, undef, undef, undef, undef, undef, undef, undef, undef, undef, undef, undef, undef, undef, undef, undef, undef, undef, undef, undef, undef, undef, undef, undef, undef, undef], []⟩ wr := by
  have e : cutOf Yba.f3.body 61 = (_, _) := rfl
  rw [e]
  dsimp only
  clear e
  intro K hK
  obtain ⟨i82, hi82, hz820, hz821, hz822⟩ := info_parts info82
  obtain ⟨i86, hi86, hz860, hz861, hz862⟩ := info_parts info86
  obtain ⟨st0, hst0⟩ : ∃ st0, (⟨hists DL LS, ds, base0 xn⟩ : St) = st0 := ⟨_, rfl⟩
  have hds : Hid (ds = st0.ds) := (by rw [← hst0] : ds = st0.ds)
  have hex0 : st0.ex.length ≤ 255 := by rw [← hst0]; show (base0 xn).length ≤ 255; rw [base0_length]; exact hxn
  have hh0 : Hid (∀ j l d, LS[j]? = some l → DL[l]? = some d → st0.hs[j]? = some (hist0 d)) := fun j l d h1 h2 => by rw [← hst0]; exact hists_get h1 h2
  rw [hst0] at h
  go_wp2
  go_loopw [36, 37, 263] (fun ev dv i wr => ∃ (k : Nat) (mvs mts mns : List Value), k ≤ SS.length ∧ i = .int .i64 k ∧ dv = .int .u64 (st0.run ts sq KS (SS.take k)).ds ∧ L5 w DL I (.slice ka KS.length kc) (.slice la LS.length lc) m KS LS T dm MV MT MN ts sq ds exv (base0 xn) S VS hb g cap SB SS cv ev mvs mts mns (st0.run ts sq KS (SS.take k)) wr) (fun _ _ i _ => SS.length - (intOf i).toNat)
  case atStart => exact ⟨0, _, _, _, Nat.zero_le _, rfl, by rw [hds.out]; rfl, h⟩
  case round =>
    clear h
    obtain ⟨k, mvs, mts, mns, hk, rfl, rfl, h⟩ := hrel
    by_cases hlt : k < SS.length
    · obtain ⟨s, hs⟩ : ∃ s, SS[k]? = some s := ⟨_, List.getElem?_eq_getElem hlt⟩
      have hss := hsz s (List.mem_of_getElem? hs)
      have hnone := fun ha => run_none (ts := ts) (sq := sq) (KS := KS) (st := st0) hs ha
      have hsome := fun j x v ha => run_some (ts := ts) (sq := sq) (KS := KS) (st := st0) (j := j) (x := x) (v := v) hs ha
      have hlike : ∀ j l d, LS[j]? = some l → DL[l]? = some d → ∃ o, (st0.run ts sq KS (SS.take k)).hs[j]? = some o ∧ Like (hist0 d) o := fun j l d h1 h2 => run_like ts sq KS (SS.take k) st0 (hh0.out j l d h1 h2)
      have hexl : (st0.run ts sq KS (SS.take k)).ex.length ≤ 2000000 := by
        have h1 := run_ex ts sq KS (SS.take k) st0
        rw [List.length_take] at h1
        omega
      generalize hst : st0.run ts sq KS (SS.take k) = st at h hnone hsome hlike hexl ⊢
      have HN : Hid (∀ _, _) := hnone
      have HS : Hid (∀ _ _ _ _, _) := hsome
      have HL : Hid (∀ _ _ _ _ _, _) := hlike
      clear hnone hsome hlike hst
      have sc0 : wr.cell? ⟨SB, k, none⟩ = some (.string s) := by rw [h.sch.cellAt k (by omega), List.getElem?_map, hs]; rfl
      have hSl : SB < wr.heap.size := (h.sch.lt SB rfl).2
      have hmp := h.l2.map
      cases hf : find KS s with
      | none =>
        have hlk := (hmp.look_out (t := 28) (e := 3) (z := .int .i64 0) Yba.underlying28 rfl rfl hss (find_none hf)).1
        have hrun := HN.out (at_out hf)
        go_wp2
        exact ⟨⟨k + 1, mvs, mts, mns, hlt, int_eq (by omega), by rw [hrun], by rw [hrun]; exact h⟩, by simp [intOf]; omega⟩
      | some j =>
        have hKj := find_some hf
        have hjl : j < KS.length := (List.getElem?_eq_some_iff.1 hKj).1
        have hlk := (hmp.look_in (t := 28) (e := 3) (z := .int .i64 0) Yba.underlying28 rfl rfl hss hKj (ints_get (i := j) (by simp [hjl]))).1
        obtain ⟨l, hl⟩ : ∃ l, LS[j]? = some l := ⟨_, List.getElem?_eq_getElem (by rw [h.l2.len]; exact hjl)⟩
        have hlD : l < DL.length := h.l2.lastLt l (List.mem_of_getElem? hl)
        obtain ⟨d, hd⟩ : ∃ d, DL[l]? = some d := ⟨_, List.getElem?_eq_getElem hlD⟩
        obtain ⟨o, ho, hLk⟩ := HL.out j l d hl hd
        obtain ⟨la0, lc0', hle, hla⟩ := row_form h.l2.last
        cases hle
        obtain ⟨lg, rfl, hlg⟩ := hla (by rw [h.l2.len]; omega)
        obtain ⟨dg, dO, rfl, hdg, hat, hsrc, hvl, hkl⟩ := hIn.drop h.l2.below hd
        obtain ⟨c0, c1, c2, c3, c4, c5, c6, c7⟩ := hat
        have lc0 : wr.cell? ⟨lg, j, none⟩ = some (.int .i64 l) := by rw [h.l2.last.cellAt j (by rw [h.l2.len]; omega)]; exact ints_get hl
        have hnL : j < LS.length := by rw [h.l2.len]; exact hjl
        clear c0 c2 c3 c4 c5 c6 c7 hsrc hvl hkl hla
        cases hnl : d.nl with
        | true =>
          rw [hnl] at c1
          have ho' : st.hs[j]? = some none := by
            simp only [hist0, hnl, if_true] at hLk
            cases o with
            | none => exact ho
            | some x => exact hLk.elim
          have hrun := HN.out (at_gone hf ho')
          go_wp2
          exact ⟨⟨k + 1, mvs, mts, mns, hlt, int_eq (by omega), by rw [hrun], by rw [hrun]; exact h⟩, by simp [intOf]; omega⟩
        | false =>
          rw [hnl] at c1
          obtain ⟨x, ho'⟩ : ∃ x, st.hs[j]? = some (some x) := by
            simp only [hist0, hnl] at hLk
            cases o with
            | none => exact hLk.elim
            | some x => exact ⟨x, ho⟩
          clear hLk ho
          obtain ⟨g0, o0, cp0, m1, m2, m3, hg0, hver, h8, hdr⟩ := h.each ho' hjl
          obtain ⟨l1, l2, l3⟩ := h.lts
          by_cases hx0 : x.vs = []
          · have hrun := HN.out (at_not hf ho' (dropped_nil hx0))
            rw [hx0] at m1
            go_wp2
            exact ⟨⟨k + 1, mvs, mts, mns, hlt, int_eq (by omega), by rw [hrun], by rw [hrun]; exact h⟩, by simp [intOf]; omega⟩
          · obtain ⟨p, hp⟩ : ∃ p, x.vs.length = p + 1 := ⟨x.vs.length - 1, by have := List.length_pos_iff.2 hx0; omega⟩
            obtain ⟨v, hv⟩ : ∃ v, x.vs.getLast? = some v := by
              cases e : x.vs.getLast? with
              | none => exact absurd (List.getLast?_eq_none_iff.1 e) hx0
              | some v => exact ⟨v, rfl⟩
            rw [hp] at m1
            obtain ⟨e0, e1, e2, e3, e4, e5, e6, e7, e8, e9⟩ := hver p v (last_at hv hp)
            cases hvd : v.dr with
            | false =>
              rw [hvd] at e5
              have hrun := HN.out (at_not hf ho' (dropped_none hv hvd))
              go_wp2
              exact ⟨⟨k + 1, mvs, mts, mns, hlt, int_eq (by omega), by rw [hrun], by rw [hrun]; exact h⟩, by simp [intOf]; omega⟩
            | true =>
              clear e0 e1 e2 e3 e4 e5 e6 e7 e8 e9
              have hdp := dropped_some hv hvd
              have hat := at_here hf ho' hdp
              have hrun := HS.out j x v hat
              obtain ⟨ro, rc, hrow⟩ := hdr (by rw [hdp]; simp)
              subst ro
              rw [rc] at m1
              obtain ⟨e0, e1, e2, e3, e4, e5, e6, e7, e8, e9⟩ := VRow.at hrow (last_at hv hp)
              rw [hvd] at e5
              have hrow' : wr.ownsRow 0 82 10 (.slice (some ⟨g0, 0, none⟩) (p + 1) (p + 1)) (p + 1) (vcells x.vs) := by rw [← hp]; exact hrow
              rw [hp] at m1 h8
              have hat1 := fun (w1 : World) (hc : Chg (fun _ => False) wr w1) => h.rows_at ho' hjl hc
              have HAT : Hid (∀ _ _, _) := hat1
              clear hat1 hdr hver hx0
              by_cases hp7 : p = 7
              · subst hp7
                simp only [Nat.reduceAdd] at m1 hp hrow' h8
                go_upto_region 74 with (at_builtin; refine wpList_append_grows _ rfl (.tmp 310) (.tmp 312) 71 rfl 82 i82 zver.val 10 96 Yba.underlying71 hi82 hz820 hz821 hz822 rfl (by decide) (some ⟨g0, 0, none⟩) 8 8 (vcells x.vs) rfl (by simp) (by rw [vcells_length, hp]) (olds_at ((hrow'.alloc _).alloc _)) ⟨wr.heap.size + 1, 0, none⟩ 1 1 (Ver.mk ts sq v.sc v.tb false).cells rfl rfl (new_at_is _ (Ver.mk ts sq v.sc v.tb false).cells 82 _ (by simp)) (Ver.oneCell _) (by omega) (by unfold maxLen; omega) (by omega) ?_; intro v' w1 own1 gr1; obtain ⟨g1, cp1, rfl, hg1, hgl1⟩ := own1.form (by omega); have hcp : ¬ cp1 = 1 := (by have := row_cap own1; omega))
                have hc1 : Chg (fun _ => False) wr w1 := ((Chg.alloc _ _ _).trans (Chg.alloc _ _ _)).trans ((grown_chg gr1).mono (fun _ _ e => by cases e))
                have own2 := row_base own1
                have hg2 : wr.heap.size ≤ g1 := by simp at hg1; omega
                have hsh := fun (X : Int) (hX : X = max x.nt ts) => L5.full (X := X) (cp := cp1) (cp' := cp1 - 1) h hat hjl hp hc1 own2 hg2 hX
                have HSH : Hid (∀ _ _, _) := hsh
                clear hsh own1 own2 gr1 hg1
                obtain ⟨⟨y1, hy1⟩, ⟨y2, hy2⟩, n3, f1, f2, f3, ⟨q1, q2, q3⟩, ⟨ra1, ra2, ra3, ra4, ra5, ra6⟩⟩ := HAT.out w1 hc1
                clear m1 m2 m3 e0 e1 e2 e3 e4 e5 e6 e7 e8 e9 sc0 lc0 c1 l1 l2 l3 hSl hg0 hlg hdg hlk hmp hrow hrow' hc1 hcp
                go_upto_region 77 with (fail)
                obtain ⟨mvs', mts', mns', h2⟩ := HSH.out _ rfl
                generalize ((w1.setCell ⟨MT, j, none⟩ (.bool true)).setCell ⟨MV, j, none⟩ (.slice (some ⟨g1, 10, none⟩) 8 (cp1 - 1))).setCell ⟨MN, j, none⟩ (.int .u64 (max x.nt ts)) = w2 at h2 ⊢
                clear hy1 hy2 n3 f1 f2 f3 q1 q2 q3 ra1 ra2 ra3 ra4 ra5 ra6 HSH HAT
                go_wp2_with (at_builtin; refine wpList_append_lies _ rfl (.tmp 338) (.tmp 344) 62 rfl 0 86 i86 _ 4 48 Yba.underlying62 hi86 hz860 hz861 hz862 rfl (by decide) _ st.ex.length (xcells st.ex) rfl (h2.exp.alloc _) ⟨w2.heap.size, 0, none⟩ 1 1 (Exc.mk s ⟨#[]⟩ sq true).cells rfl rfl (new_at _ _ _) (Exc.oneCell _) (by omega) (by unfold maxLen; omega) (by omega) (Nat.zero_le _) (w2.heap.size + 1) (by simp) ?_; intro g3 cp3 w3 own3 gr3 at3 lt3)
                have h3 := L5.more (d' := max st.ds sq) h2 own3 gr3 at3
                exact ⟨⟨k + 1, mvs', mts', mns', hlt, int_eq (by omega), by rw [hrun], by rw [hrun]; exact h3⟩, by simp [intOf]; omega⟩
              · have hp8 : p < 7 := by omega
                go_upto_region 75 with (at_builtin; refine wpList_append_grows _ rfl (.tmp 310) (.tmp 312) 71 rfl 82 i82 zver.val 10 96 Yba.underlying71 hi82 hz820 hz821 hz822 rfl (by decide) (some ⟨g0, 0, none⟩) (p + 1) (p + 1) (vcells x.vs) rfl (by simp) (by rw [vcells_length, hp]) (olds_at ((hrow'.alloc _).alloc _)) ⟨wr.heap.size + 1, 0, none⟩ 1 1 (Ver.mk ts sq v.sc v.tb false).cells rfl rfl (new_at_is _ (Ver.mk ts sq v.sc v.tb false).cells 82 _ (by simp)) (Ver.oneCell _) (by omega) (by unfold maxLen; omega) (by omega) ?_; intro v' w1 own1 gr1; obtain ⟨g1, cp1, rfl, hg1, hgl1⟩ := own1.form (by omega))
                have hc1 : Chg (fun _ => False) wr w1 := ((Chg.alloc _ _ _).trans (Chg.alloc _ _ _)).trans ((grown_chg gr1).mono (fun _ _ e => by cases e))
                have own2 := row_base own1
                have hg2 : wr.heap.size ≤ g1 := by simp at hg1; omega
                have hsh := fun (X : Int) (hX : X = max x.nt ts) => L5.short (X := X) (cp := cp1) h hat hjl (by omega) hc1 (by rw [hp]; exact own2) hg2 hX
                rw [hp] at hsh
                have HSH : Hid (∀ _ _, _) := hsh
                clear hsh own1 own2 gr1 hg1
                obtain ⟨⟨y1, hy1⟩, ⟨y2, hy2⟩, n3, f1, f2, f3, ⟨q1, q2, q3⟩, ⟨ra1, ra2, ra3, ra4, ra5, ra6⟩⟩ := HAT.out w1 hc1
                clear m1 m2 m3 e0 e1 e2 e3 e4 e5 e6 e7 e8 e9 sc0 lc0 c1 l1 l2 l3 hSl hg0 hlg hdg hlk hmp hrow hrow' hc1
                go_upto_region 77 with (fail)
                obtain ⟨mvs', mts', mns', h2⟩ := HSH.out _ rfl
                generalize (w1.setCell ⟨MV, j, none⟩ (.slice (some ⟨g1, 0, none⟩) (p + 1 + 1) cp1)).setCell ⟨MN, j, none⟩ (.int .u64 (max x.nt ts)) = w2 at h2 ⊢
                clear hy1 hy2 n3 f1 f2 f3 q1 q2 q3 ra1 ra2 ra3 ra4 ra5 ra6 HSH HAT
                go_wp2_with (at_builtin; refine wpList_append_lies _ rfl (.tmp 338) (.tmp 344) 62 rfl 0 86 i86 _ 4 48 Yba.underlying62 hi86 hz860 hz861 hz862 rfl (by decide) _ st.ex.length (xcells st.ex) rfl (h2.exp.alloc _) ⟨w2.heap.size, 0, none⟩ 1 1 (Exc.mk s ⟨#[]⟩ sq true).cells rfl rfl (new_at _ _ _) (Exc.oneCell _) (by omega) (by unfold maxLen; omega) (by omega) (Nat.zero_le _) (w2.heap.size + 1) (by simp) ?_; intro g3 cp3 w3 own3 gr3 at3 lt3)
                have h3 := L5.more (d' := max st.ds sq) h2 own3 gr3 at3
                exact ⟨⟨k + 1, mvs', mts', mns', hlt, int_eq (by omega), by rw [hrun], by rw [hrun]; exact h3⟩, by simp [intOf]; omega⟩
    · have ek : k = SS.length := by omega
      have hst : st0.run ts sq KS (SS.take k) = st0.run ts sq KS SS := by rw [ek, List.take_length]
      rw [hst] at h ⊢
      go_upto_region 80 with (fail)
      refine tail80 hIn h (by rw [hst0]) hxn hD hKl hS hsz _ _ _ _ _ _ _ _ _ _ _ _ _ _ _ _ _ _ _ _ _ _ _ _ _ _ _ _ _ _ _ _ _ _ _ _ _ _ _ _ _ _ _ _ _ _ _ _ _ _ _ _ _ _ _ _ _ _ _ _ _ _ _ _ _ _ _ _ _ _ _ _ _ _ _ _ _ _ _ _ _ _ _ _ _ _ _ _ _ _ _ _ _ _ _ _ _ _ _ _ _ _ _ _ _ _ _ _ _ _ _ _ _ _ _ _ _ _ _ _ _ _ _ _ _ _ _ _ _ _ _ _ _ _ _ _ _ _ _ _ _ _ _ _ _ _ _ _ _ _ _ _ _ _ _ _ _ _ _ _ _ _ _ _ _ _ _ _ _ _ _ _ _ _ _ _ _ _ _ _ _ _ _ _ _ _ _ _ _ _ _ _ _ _ _ _ _ _ _ _ _ _ _ _ _ _ _ _ _ _ _ _ _ _ _ _ _ _ _ _ _ _ _ _ _ _ _ _ _ _ _ _ _ _ _ _ _ _ _ _ _ _ _ _ _ _ _ _ _ _ _ _ _ _ _ _ _ _ _ _ _ _ _ _ _ _ _ _ _ _ _ _ _ _ _ _ _ _ _ _ _ _ _ _ _ _ _ _ _ _ _ _ _ _ _ _ _ _ _ _ _ _ _ _ _ _ _ _ _ _ _ _ _ _ _ _ _ _ _ _ _ _ _ ?_
      assumption

end Go.Proofs.Ybulkexohm
