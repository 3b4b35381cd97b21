/-
  The law from its fourth loop to its end.
-/
import Derived.Test.YbulkexohmTail61
import Derived.Test.YbulkexohmClone
import Derived.Test.YbulkexohmExcl
import Derived.Test.YbulkexohmRep
import Derived.Test.YbulkexohmCut
import Derived.Test.YbulkexohmHold
import Derived.Deep.Cut
import Derived.BigQuiet
namespace Go.Proofs.Ybulkexohm
open Go.RowKit Go.Maps
set_option linter.unusedVariables false
theorem made_strs (n : Nat) : (madeCells (Value.string ⟨#[]⟩).cells (n * 1)).toList = (List.replicate n (ByteArray.mk #[])).map .string := by
  rw [Nat.mul_one]
  apply List.ext_getElem?
  intro j
  rw [List.getElem?_map, List.getElem?_replicate]
  have hs : (Value.string ⟨#[]⟩).cells.size = 1 := rfl
  by_cases hj : j < n
  · rw [if_pos hj]
    simp only [madeCells, Array.toList_map, Array.toList_range, List.getElem?_map, List.getElem?_range hj, Option.map_some, hs, Nat.mod_one]
    rfl
  · rw [if_neg hj]
    simp only [madeCells, Array.toList_map, Array.toList_range, List.getElem?_map]
    rw [List.getElem?_eq_none (by simp; omega)]
    rfl
section
variable {w : World} {DL : List DIn} {I : Nat} {kv lv : Value} {m : Nat} {KS : List ByteArray} {LS : List Nat} {T MV MT MN : Nat} {ts sq ds : Int} {dm exv : Value} {ex : List Exc} {S : Nat → Prop} {VS : List Value} {hb g cap : Nat → Nat} {mvs mts mns : List Value} {wr : World}
/-- One name is set. -/
theorem names_put {SB N : Nat} {SS : List ByteArray} (h : L4 w DL I kv lv m KS LS T dm MV MT MN ts sq ds exv ex S VS hb g cap mvs mts mns wr) (hrow : wr.ownsRow 0 9 1 (.slice (some ⟨SB, 0, none⟩) N N) N (SS.map .string)) (hl : Hid (SS.length = N)) (hsz : ∀ s ∈ SS, s.size ≤ maxLen)
    (hN : w.heap.size ≤ SB) (hI : I ≠ SB) (hK : kv.ownBlock ≠ some SB) (k : Nat) {x : ByteArray} (hx : x.size ≤ maxLen) :
    Hid ((SS.set k x).length = N) ∧ (∀ s ∈ SS.set k x, s.size ≤ maxLen) ∧ (wr.setCell ⟨SB, k, none⟩ (.string x)).ownsRow 0 9 1 (.slice (some ⟨SB, 0, none⟩) N N) N ((SS.set k x).map .string) ∧ L4 w DL I kv lv m KS LS T dm MV MT MN ts sq ds exv ex S VS hb g cap mvs mts mns (wr.setCell ⟨SB, k, none⟩ (.string x)) := by
  obtain ⟨C, hC⟩ := row_block hrow
  have hr := row_set hrow k (.string x)
  rw [← List.map_set] at hr
  refine ⟨(by rw [List.length_set]; exact hl.out : (SS.set k x).length = N), fun s hs => ?_, hr, h.names ((Chg.refl (fun k => k = SB) wr).setCell ⟨SB, k, none⟩ _ (fun _ => rfl)) hN hI hK hC⟩
  rcases List.mem_or_eq_of_mem_set hs with q | q
  · exact hsz s q
  · rw [q]; exact hx
end
set_option maxRecDepth 100000 in
set_option maxHeartbeats 8000000 in
theorem tail49 {w : World} {a pa : Option Addr} {DL : List DIn} {PL : List Int} {dc pc I : Nat} {ka la : Option Addr} {kc lc m : Nat} {KS : List ByteArray} {LS : List Nat} {T MV MT MN : Nat} {ts sq ds : Int} {dm exv : Value} {xn : Nat} {S : Nat → Prop} {VS : List Value} {hb g cap : Nat → Nat} {mvs mts mns : List Value} {wr : World}
    (hIn : In w a DL pa PL) (h : L4 w DL I (.slice ka KS.length kc) (.slice la LS.length lc) m KS LS T dm MV MT MN ts sq ds exv (base0 xn) S VS hb g cap mvs mts mns wr) (hxn : xn ≤ 255) (hD : DL.length ≤ 1048576) (hKl : KS.length ≤ 1048576) (hP : PL.length ≤ 1048576)
    (u12 u13 u14 u19 u20 u21 u22 u27 u28 u29 u50 u51 u52 u53 u54 u55 u56 u57 u58 u59 u60 u61 u62 u63 u64 u65 u66 u67 u68 u69 u70 u71 u72 u73 u74 u75 u76 u77 u78 u79 u80 u81 u82 u83 u84 u85 u86 u87 u88 u89 u90 u91 u92 u93 u94 u95 u96 u97 u98 u99 u100 u101 u102 u103 u104 u105 u106 u107 u108 u109 u110 u111 u112 u113 u114 u115 u116 u117 u118 u119 u120 u121 u122 u123 u124 u125 u126 u127 u128 u129 u130 u131 u132 u133 u134 u135 u136 u137 u138 u139 u140 u141 u142 u143 u144 u145 u146 u147 u148 u149 u150 u151 u152 u153 u154 u155 u156 u157 u158 u159 u160 u161 u162 u163 u164 u165 u166 u167 u168 u169 u170 u171 u172 u173 u174 u175 u176 u177 u178 u179 u180 u181 u182 u183 u184 u185 u186 u187 u188 u189 u190 u191 u192 u193 u194 u195 u196 u197 u198 u199 u200 u201 u202 u203 u204 u205 u206 u207 u208 u209 u210 u211 u212 u213 u214 u215 u216 u217 u218 u219 u220 : Value) :
    ∀ K : Act → World → Prop, (∀ b w', Code.wp Yba.prog (cutOf Yba.f3.body 49).2 (Says w) b w' → K b w') → Code.wp Yba.prog (cutOf Yba.f3.body 49).1 (Exit.then K (Says w)) ⟨#[.slice a DL.length dc, .slice pa PL.length pc, .int .u64 ts, .int .u64 sq, .int .u64 ds, .int .u8 xn, undef, undef, undef, undef, undef, undef, u12, u13, u14, .map (some I), .slice ka KS.length kc, .slice la LS.length lc, .int .i64 m, u19, u20, u21, u22, .pointer (some ⟨T, 0, none⟩), .slice (some ⟨MV, 0, none⟩) KS.length KS.length, .slice (some ⟨MT, 0, none⟩) KS.length KS.length, .slice (some ⟨MN, 0, none⟩) KS.length KS.length, u27, u28, u29, undef, undef, undef, undef, undef, undef, undef, undef, undef, undef, undef, undef, undef, undef, undef, undef, undef, undef, undef, undef, u50, u51, u52, u53, u54, u55, u56, u57, u58, u59, u60, u61, u62, u63, u64, u65, u66, u67, u68, u69, u70, u71, u72, u73, u74, u75, u76, u77, u78, u79, u80, u81, u82, u83, u84, u85, u86, u87, u88, u89, u90, u91, u92, u93, u94, u95, u96, u97, u98, u99, u100, u101, u102, u103, u104, u105, u106, u107, u108, u109, u110, u111, u112, u113, u114, u115, u116, u117, u118, u119, u120, u121, u122, u123, u124, u125, u126, u127, u128, u129, u130, u131, u132, u133, u134, u135, u136, u137, u138, u139, u140, u141, u142, u143, u144, u145, u146, u147, u148, u149, u150, u151, u152, u153, u154, u155, u156, u157, u158, u159, u160, u161, u162, u163, u164, u165, u166, u167, u168, u169, u170, u171, u172, u173, u174, u175, u176, u177, u178, u179, u180, u181, u182, u183, u184, u185, u186, u187, u188, u189, u190, u191, u192, u193, u194, u195, u196, u197, u198, u199, u200, u201, u202, u203, u204, u205, u206, u207, u208, u209, u210, u211, u212, u213, u214, u215, u216, u217, u218, u219, u220, undef, undef, undef, undef, undef, undef, undef, undef, undef, undef, undef, undef, undef, undef, undef, undef, undef, undef, undef, undef, undef, undef, undef, undef, undef, undef, undef, undef, undef, undef, undef, undef, undef, undef, undef, undef, undef, undef, undef, undef, undef, undef, undef, undef, undef, undef, undef, undef, undef, undef, undef, undef, undef, undef, undef, undef, undef, undef, undef, undef, undef, undef, undef, undef, undef, undef, undef, undef, undef, undef, undef, undef, undef, undef, undef, undef, undef, undef, undef, undef, undef, undef, undef, undef, undef, undef, undef, undef, undef, undef, undef, undef, undef, undef, undef, undef, undef, undef, undef, undef, undef, undef, undef, undef, undef, undef, undef, undef, undef, undef, undef, undef, undef, undef, undef, undef, undef, undef, undef, undef, undef, undef, undef, undef, undef, undef, undef, undef, undef, undef, undef, undef, undef, undef, undef, undef, undef, undef, undef, undef, undef, undef, undef, undef, undef, undef, undef, undef, undef, undef, undef, undef, undef, undef, undef, undef, undef, undef, undef, undef, undef, undef, undef, undef, undef, undef, undef, undef, undef, undef, undef, undef, undef, undef, undef, undef, undef, undef, undef, undef, undef, undef, undef, undef, undef, undef, undef, undef, undef, undef, undef, undef, undef, undef, undef, undef, undef, undef, undef, undef, undef, undef, undef, undef, undef, undef, undef, undef, undef, undef, undef, undef, undef, undef, undef, undef, undef, undef, undef, undef, undef, undef, undef, undef, undef, undef, undef, undef, undef, undef, undef, undef, undef, undef, undef, undef, undef, undef, undef, undef, undef, undef, undef, undef, undef, undef, undef, undef, undef, undef, undef, undef, undef, undef, undef, undef, undef, undef, undef, undef, undef, undef, undef, undef, undef, undef, undef, undef, undef, undef, undef, undef, undef, undef, undef, undef, undef, undef, undef, undef, undef, undef, undef, undef, undef, undef, undef, undef, undef, undef, undef, undef, undef, undef, undef, undef], []⟩ wr := by
  have e : cutOf Yba.f3.body 49 = (_, _) := rfl
  rw [e]
  dsimp only
  clear e
  intro K hK
  obtain ⟨i9, hi9, hz90, hz91, hz92⟩ := info_parts info9
  have hms := h.l2.msz
  have cR := repeat_any (m + 1) wr (by omega)
  go_upto_region 50 with (go_at_call 6; refine cR.mono ?_; rintro e w1 ⟨ab, rfl, hab, hb1⟩; have h1 := h.same (Chg.ofBelow hb1 _))
  clear h cR hb1
  have hSB1 : ¬ S w1.heap.size := fun q => by have := h1.hi _ q; omega
  have hSB2 : w.heap.size ≤ w1.heap.size := h1.l2.below.size
  have hSB3 : I ≠ w1.heap.size := fun e => by have := h1.l2.map.lt; omega
  have hSB4 : (Value.slice ka KS.length kc).ownBlock ≠ some w1.heap.size := fun e => by have := (h1.l2.keys.lt _ e).2; omega
  go_upto_region 51 with (at_make; refine wpList_make_full _ rfl (.tmp 225) (.tmp 225) 29 rfl 0 9 i9 (.string ⟨#[]⟩) 1 Yba.underlying29 hi9 hz90 hz91 .i64 .i64 _ _ PL.length rfl rfl rfl rfl (by rw [hz92]; omega) (by unfold maxLen; omega) (Nat.zero_le _) ?_; intro w2 o2 g2)
  have h2 := h1.same ((grown_chg g2).mono (fun _ _ e => by cases e))
  have o2' : ∃ SS : List ByteArray, Hid (SS.length = PL.length) ∧ (∀ s ∈ SS, s.size ≤ maxLen) ∧ w2.ownsRow 0 9 1 (.slice (some ⟨w1.heap.size, 0, none⟩) PL.length PL.length) PL.length (SS.map .string) := by
    rw [made_strs PL.length] at o2
    exact ⟨_, (by simp : (List.replicate PL.length (ByteArray.mk #[])).length = PL.length), fun s hs => by rw [(List.mem_replicate.1 hs).2]; exact Nat.zero_le _, o2⟩
  clear o2 g2 h1
  generalize w1.heap.size = SB at hSB1 hSB2 hSB3 hSB4 o2' ⊢
  go_wp2
  go_loopw [229] (fun i wr => ∃ (k : Nat) (SS : List ByteArray), k ≤ PL.length ∧ i = .int .i64 k ∧ Hid (SS.length = PL.length) ∧ (∀ s ∈ SS, s.size ≤ maxLen) ∧ wr.ownsRow 0 9 1 (.slice (some ⟨SB, 0, none⟩) PL.length PL.length) PL.length (SS.map .string) ∧ L4 w DL I (.slice ka KS.length kc) (.slice la LS.length lc) m KS LS T dm MV MT MN ts sq ds exv (base0 xn) S VS hb g cap mvs mts mns wr) (fun i _ => PL.length - (intOf i).toNat)
  case atStart =>
    obtain ⟨SS, r1, r2, r3⟩ := o2'
    exact ⟨0, SS, Nat.zero_le _, rfl, r1, r2, r3, h2⟩
  case round =>
    clear o2' h2
    obtain ⟨k, SS, hk, rfl, hSl, hsz, hrow, h⟩ := hrel
    have hSBl : SB < wr.heap.size := (hrow.lt SB rfl).2
    by_cases hlt : k < PL.length
    · obtain ⟨p, hp⟩ : ∃ p, PL[k]? = some p := ⟨_, List.getElem?_eq_getElem hlt⟩
      obtain ⟨pg, pO, rfl, hpg, hpc, hp0, hp1⟩ := hIn.pick h.l2.below hp
      obtain ⟨y, hy⟩ := row_cell hrow hlt
      have hfr := hrow.frozenAt k
      obtain ⟨r, hr, hrK⟩ : ∃ r : Nat, p % ((KS.length : Int) + 1) = (r : Int) ∧ r ≤ KS.length := by
        have z1 := Int.emod_nonneg p (b := (KS.length : Int) + 1) (by omega)
        have z2 := Int.emod_lt_of_pos p (b := (KS.length : Int) + 1) (by omega)
        exact ⟨(p % ((KS.length : Int) + 1)).toNat, by omega, by omega⟩
      have hput := fun (x : ByteArray) (hx : x.size ≤ maxLen) => names_put h hrow hSl hsz hSB2 hSB3 hSB4 k hx
      have HPUT : Hid (∀ _ _, _) := hput
      clear hput
      go_upto_region 55 with (fail)
      rw [hr]
      clear hr hp0 hp1 hp hpc hpg
      by_cases hrl : r = KS.length
      · subst hrl
        have H := HPUT.out ab hab
        go_wp2
        exact ⟨⟨k + 1, SS.set k ab, hlt, int_eq (by omega), H⟩, by simp [intOf]; omega⟩
      · have hrlt : r < KS.length := by omega
        have hrb : ((r : Int) == (KS.length : Int)) = false := by simp only [beq_eq_false_iff_ne]; omega
        obtain ⟨ka0, kc0', hke, hka⟩ := row_form h.l2.keys
        cases hke
        obtain ⟨kg, rfl, hkg⟩ := hka (by omega)
        obtain ⟨s, hs⟩ : ∃ s, KS[r]? = some s := ⟨_, List.getElem?_eq_getElem hrlt⟩
        have kc0 : wr.cell? ⟨kg, r, none⟩ = some (.string s) := by rw [h.l2.keys.cellAt r (by omega), List.getElem?_map, hs]; rfl
        have H := HPUT.out s (by have := h.l2.ksz s (List.mem_of_getElem? hs); unfold maxLen; omega)
        go_wp2
        exact ⟨⟨k + 1, SS.set k s, hlt, int_eq (by omega), H⟩, by simp [intOf]; omega⟩
    · have ek : k = PL.length := by omega
      have hl : SS.length = PL.length := hSl.out
      have hsch : SRow wr (.slice (some ⟨SB, 0, none⟩) SS.length SS.length) SS := by
        show wr.ownsRow 0 9 1 (.slice (some ⟨SB, 0, none⟩) SS.length SS.length) SS.length (SS.map .string)
        rw [hl]; exact hrow
      have hSS : SS.length ≤ 1048576 := by omega
      clear hl
      have cC := clone_any SB SS.length SS wr (by omega) hsch
      rw [hSl.out] at cC
      go_upto_region 61 with (first
        | (go_at_call 7; refine cC.mono ?_; rintro e w3 ⟨cv, rfl, rc, nc, b1⟩; have cX := excl_any xn w3 hxn)
        | (go_at_call 4; refine cX.mono ?_; rintro e w4 ⟨ev, rfl, re, ne, b2⟩))
      rw [← hSl.out] at rc
      have h5 := L5.start h hsch hSB1 b1 rc nc b2 re ne
      rw [← hSl.out]
      refine tail61 hIn h5 hxn hD hKl hSS hsz _ _ _ _ _ _ _ _ _ _ _ _ _ _ _ _ _ _ _ _ _ _ _ _ _ _ _ _ _ _ _ _ _ _ _ _ _ _ _ _ _ _ _ _ _ _ _ _ _ _ _ _ _ _ _ _ _ _ _ _ _ _ _ _ _ _ _ _ _ _ _ _ _ _ _ _ _ _ _ _ _ _ _ _ _ _ _ _ _ _ _ _ _ _ _ _ _ _ _ _ _ _ _ _ _ _ _ _ _ _ _ _ _ _ _ _ _ _ _ _ _ _ _ _ _ _ _ _ _ _ _ _ _ _ _ _ _ _ _ _ _ _ _ _ _ _ _ _ _ _ _ _ _ _ _ _ _ _ _ _ _ _ _ _ _ _ _ _ _ _ _ _ _ _ _ _ _ _ _ _ _ _ _ _ _ _ _ _ _ _ _ _ _ _ _ _ _ _ _ _ _ _ _ _ _ _ _ _ _ _ _ _ _ _ _ _ _ _ _ _ _ _ _ _ _ _ _ _ ?_
      assumption

end Go.Proofs.Ybulkexohm
