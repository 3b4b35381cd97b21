/-
  A proof of 'Rows.LawS194076AWholeSaid' (ddl.LawS194076AWhole). The frame is the guide's; the walks, their contracts and the plain laws are ours.
-/
import Derived.Test.YbulkexohmRows
import Derived.Test.YbulkexohmOpen
import Derived.Test.YbulkexohmHead
import Derived.Test.YbulkexohmNil
import Derived.OpenShut
import Derived.ShutString
namespace Go.Proofs.Ybulkexohm.lawS194076AWhole
open Go.ChangeShapes Go.WideShapes Go.ChangeAt Go.RowKit
set_option linter.unusedVariables false
theorem own : ownKnob Yba.prog.godebug = none := by kernel_rfl
theorem laidOut : laidOutB Yba.prog = true := by kernel_rfl
/-- The law at whatever arguments. -/
theorem law_all (a pa : Option Addr) (DL : List DIn) (PL : List Int) (dc pc : Nat) (ts sq ds : Int) (xn : Nat) (w : World) (hIn : In w a DL pa PL) (hxn : xn ≤ 255) :
    Calls Yba.prog 3 #[.slice a DL.length dc, .slice pa PL.length pc, .int .u64 ts, .int .u64 sq, .int .u64 ds, .int .u8 xn] w fun e w' => e = .returned (.bool true) ∧ Below w.heap.size w w' := by
  by_cases h1 : 1048576 < DL.length
  · exact law_long1 a pa DL.length dc PL.length pc ts sq ds xn w (by omega)
  · by_cases h2 : 1048576 < PL.length
    · exact law_long2 a pa DL.length dc PL.length pc ts sq ds xn w (by omega) (by omega)
    · by_cases h0 : DL = []
      · subst h0
        exact law_nil a pa PL dc pc ts sq ds xn w hIn hxn (by omega)
      · exact law_any a pa DL PL dc pc ts sq ds xn w hIn (by omega) (by omega) hxn (by omega) (by omega) (List.length_pos_iff.2 h0)
set_option maxRecDepth 100000 in
theorem lifted (os : Os) (started : os.Started) (H : Type) (enc : TypeId × Value → H) :
    ReturnsInHanded {} Yba.checked os 3 .any (Rows.lawS194076AWholeSpec.pre6 enc Yba.prog Yba.f3 Rows.lawS194076AWholeRow.domain false) (Rows.lawS194076AWholeSpec.post enc Yba.prog Yba.f3 false true false false) := by
  refine returnsInHanded_of_change_sized (C := Yba.checked) own started (by kernel_rfl) Yba.func3
    (ChangeSpec.witness6 (enc := enc) (C := Yba.checked) false ⟨#[], #[.slice none 0 0, .slice none 0 0, .int .u64 0, .int .u64 0, .int .u64 0, .int .u8 0], []⟩ 8 (by kernel_rfl) (by kernel_rfl) (by kernel_rfl) (by kernel_rfl)) ?_
  intro W base args ds gs before hval0 hW hcnd hwt0 _
  have hval : ∀ (j : Nat) t v, Yba.f3.params[j]? = some t → args[j]? = some v → Value.okWide Yba.prog W .any base t v := hval0
  have hwt : (DataW.weightsEach Yba.prog (Yba.f3.params.toList ++ Rows.lawS194076AWholeSpec.plain.varTypes Yba.prog) (ds ++ gs)).all (· ≤ reachBytes) = true := hwt0
  have hW' := hW
  obtain ⟨p, q, hA0, hV, rfl, hfz, hnd⟩ := hW
  have hA : DataW.TrodAll enc Yba.prog W 0 (fun _ => true) true Yba.f3.params.toList args.toList ds p := hA0
  rw [Yba.params3] at hA hval hwt
  obtain ⟨v0, vs0, d0, ds0, p0, q0, hargs, rfl, rfl, h0, r0⟩ := trodAll_cons hA
  obtain ⟨v1, vs1, d1, ds1, p1, q1, rfl, rfl, rfl, h1, r1⟩ := trodAll_cons r0
  obtain ⟨v2, vs2, d2, ds2, p2, q2, rfl, rfl, rfl, h2, r2⟩ := trodAll_cons r1
  obtain ⟨v3, vs3, d3, ds3, p3, q3, rfl, rfl, rfl, h3, r3⟩ := trodAll_cons r2
  obtain ⟨v4, vs4, d4, ds4, p4, q4, rfl, rfl, rfl, h4, r4⟩ := trodAll_cons r3
  obtain ⟨v5, vs5, d5, ds5, p5, q5, rfl, rfl, rfl, h5, r5⟩ := trodAll_cons r4
  obtain ⟨rfl, rfl, rfl⟩ := trodAll_nil r5
  obtain rfl : args = #[v0, v1, v2, v3, v4, v5] := by cases args; simp_all
  obtain ⟨rfl, rfl⟩ := trodVars_none hV
  obtain ⟨s0, n0, c0, rfl⟩ := okWide_slice Yba.underlying22 (hval 0 22 v0 rfl rfl)
  obtain ⟨s1, n1, c1, rfl⟩ := okWide_slice Yba.underlying23 (hval 1 23 v1 rfl rfl)
  obtain ⟨a2, rfl, rfl, rfl, w2⟩ := open_int Yba.underlying24 (hval 2 24 v2 rfl rfl) h2
  obtain ⟨a3, rfl, rfl, rfl, w3⟩ := open_int Yba.underlying24 (hval 3 24 v3 rfl rfl) h3
  obtain ⟨a4, rfl, rfl, rfl, w4⟩ := open_int Yba.underlying24 (hval 4 24 v4 rfl rfl) h4
  obtain ⟨a5, rfl, rfl, rfl, w5⟩ := open_int Yba.underlying5 (hval 5 5 v5 rfl rfl) h5
  clear hA0 hval0 hwt0
  simp only [List.append_nil] at hW'
  have hlt : ∀ x ∈ p0 ++ p1, x.block < W.heap.size := fun x hx => by simpa using hW'.lt x hx
  have hw0 : ∀ n ∈ d0.weights Yba.prog 22, n ≤ reachBytes := fun n hn => by
    have := List.all_eq_true.1 hwt n (DataW.weights_mem_each (j := 0) (t := 22) rfl rfl n hn)
    simpa using this
  have hb0 : ∀ (W' : World), Below W.heap.size W W' → DataW.Trod enc Yba.prog W' 0 (fun b => decide (b < W.heap.size)) true 22 (.slice s0 n0 c0) d0 p0 :=
    fun W' hn => Below.trod laidOut (by kernel_rfl) (of_decide_eq_true (by kernel_rfl)) h0 hn (fun x hx => hlt x (List.mem_append.2 (.inl hx)))
  have hb1 : ∀ (W' : World), Below W.heap.size W W' → DataW.Trod enc Yba.prog W' 0 (fun b => decide (b < W.heap.size)) true 23 (.slice s1 n1 c1) d1 p1 :=
    fun W' hn => Below.trod laidOut (by kernel_rfl) (of_decide_eq_true (by kernel_rfl)) h1 hn (fun x hx => hlt x (List.mem_append.2 (.inr hx)))
  obtain ⟨f0, g0⟩ := h0
  obtain ⟨f1, g1⟩ := h1
  obtain ⟨a, DL, dc, e0, hdrops⟩ := open_drops g0 hw0
  obtain ⟨pa, PL, pc, e1, hpicks⟩ := open_picks g1
  cases e0
  cases e1
  obtain ⟨xn, rfl, hxn⟩ : ∃ xn : Nat, a5 = (xn : Int) ∧ xn ≤ 255 := by
    have k1 : IntKind.u8.min = 0 := rfl
    have k2 : IntKind.u8.max = 255 := rfl
    have k3 := w5
    simp [Lit.wf, k1, k2] at k3
    exact ⟨a5.toNat, by omega, by omega⟩
  refine (law_all s0 s1 DL PL c0 c1 a2 a3 a4 xn W ⟨hdrops, hpicks⟩ hxn).mono fun e W' ⟨he, hnx⟩ => ?_
  subst he
  refine ⟨_, rfl, _, _, _, [], p0 ++ (p1 ++ []), [], hW', ?_, ?_, rfl, hnx.frame _, fun h => by cases h⟩
  · exact trodAll_cons_mk (shut_bool Yba.underlying4 _) trodAll_mk0
  · exact trodAll_cons_mk (hb0 _ hnx) (trodAll_cons_mk (hb1 _ hnx) (trodAll_cons_mk (shut_int Yba.underlying24 w2) (trodAll_cons_mk (shut_int Yba.underlying24 w3) (trodAll_cons_mk (shut_int Yba.underlying24 w4) (trodAll_cons_mk (shut_int Yba.underlying5 w5) trodAll_mk0)))))
theorem over : Rows.lawS194076AWholeRow.holds Yba.pinned (OpenSpec.ofChange Rows.lawS194076AWholeSpec) :=
  OpenClaim.holds_of_wide 3 Yba.f3 rfl rfl rfl rfl rfl rfl rfl ⟨rfl, rfl, rfl, rfl, rfl⟩ rfl rfl rfl rfl rfl (by kernel_rfl) Yba.func3 (by kernel_rfl)
    (of_decide_eq_true (by kernel_rfl)) (by unfold Func.isWrapper; first | (rw [if_pos (by decide +kernel)]; kernel_rfl) | (rw [if_neg (by decide +kernel)]; exact ⟨rfl, rfl⟩))
    (fun os started H enc _ => lifted os started H enc)
theorem proved : Rows.LawS194076AWholeSaid := over
end Go.Proofs.Ybulkexohm.lawS194076AWhole
