/-
  A proof of 'Rows.LawS194102CWholeSaid' (pack.LawS194102CWhole). The frame is the guide's shell; the walk, its contracts and the plain laws are ours.
-/
import Derived.Test.YbulkexovmRows
import Derived.WalkKit
import Derived.ProofKit
import Derived.OpenShut
import Derived.ShutString
import Derived.Test.YbulkexovmWalks
namespace Go.Proofs.Ybulkexovm.lawS194102CWhole
open Go.ChangeShapes Go.WideShapes Go.ChangeAt Go.RowKit
open Go.ChangeMaps (open_string shut_string)
set_option linter.unusedVariables false      -- a walk need not use every 'w<i>' (that an integer argument fits its kind)

theorem own : ownKnob Yba.prog.godebug = none := by kernel_rfl

/-! ### The walk. -/
theorem ret_bool {a : Bool} (h : a = true) : Ending.returned (.bool a) = .returned (.bool true) := by rw [h]
theorem end_neg (r s : Int) (g : Nat) (h : r.natAbs = g) (hs : Math.Sg r s) (hn : s < 0) (h0 : -9223372036854775808 ≤ r) (h1 : r ≤ 9223372036854775807) : (r == wrap64 (-wrap64 (g : Int))) = true := by
  have h2 : ¬ 0 < r := fun h' => by have := hs.2 h'; omega
  rw [beq_iff_eq]
  simp only [wrap64]
  omega
theorem end_pos (r s : Int) (g : Nat) (h : r.natAbs = g) (hs : Math.Sg r s) (hn : ¬ s < 0) (h0 : -9223372036854775808 ≤ r) (h1 : r ≤ 9223372036854775807) : (r == wrap64 (g : Int)) = true := by
  have h2 : ¬ r < 0 := fun h' => hn (hs.1 h')
  rw [beq_iff_eq]
  simp only [wrap64]
  omega
set_option maxHeartbeats 800000 in
theorem walk (a0 : Int) (a1 : Int) (w0 : (Lit.int .i64 a0).wf = true) (w1 : (Lit.int .i64 a1).wf = true) (w : World) :
    Calls Yba.prog 4 #[.int .i64 a0, .int .i64 a1] w fun e w' => e = .returned (.bool true) ∧ Grown w w' := by
  have h0 : -9223372036854775808 ≤ a0 ∧ a0 ≤ 9223372036854775807 := by
    have := w0
    simp [Lit.wf, IntKind.min, IntKind.max, IntKind.signed, IntKind.bits] at this
    omega
  have h1 : -9223372036854775808 ≤ a1 ∧ a1 ≤ 9223372036854775807 := by
    have := w1
    simp [Lit.wf, IntKind.min, IntKind.max, IntKind.signed, IntKind.bits] at this
    omega
  clear w0 w1
  have cG := gcd_any a0 a1 w h0 h1
  have cA := fun w => abs_any a0 w h0.1 h0.2
  have cB := fun w => abs_any a1 w h1.1 h1.2
  have cN := fun w => bin_any a0.natAbs a1.natAbs w (by omega) (by omega)
  have cS := fun w => steps_any a0 a1 w h0 h1
  have hes : Math.es a0.natAbs a1.natAbs ≤ 128 := Math.es_bits 64 _ _ (by have : (2 : Nat) ^ 64 = 18446744073709551616 := rfl; omega)
  go_enter Yba.func4, Yba.ntmps4
  go_wp2_with fail
  refine cG.mono ?_
  rintro e w1 ⟨⟨r, rfl, hG⟩, hg1⟩
  clear cG
  obtain ⟨ha, hs, hlo, hhi⟩ := hG
  generalize Math.es a0.natAbs a1.natAbs = n at *
  have HA : Hid (_ = _) := ha
  clear ha
  go_wp2_with fail
  refine (cA _).mono ?_
  rintro e w1 ⟨rfl, rfl⟩
  go_wp2_with fail
  refine (cB _).mono ?_
  rintro e w1 ⟨rfl, rfl⟩
  go_wp2_with fail
  refine (cN _).mono ?_
  rintro e w1 ⟨rfl, rfl⟩
  generalize a0.natAbs.gcd a1.natAbs = g at *
  go_wp2_with fail
  refine (cS _).mono ?_
  rintro e w2 ⟨rfl, hg2⟩
  clear cA cB cN cS
  by_cases hn : n % 2 = 1
  · rw [if_pos hn] at hs
    by_cases hneg : a1 < 0
    · have HE : Hid (_ = true) := end_neg r a1 g HA.out hs hneg hlo hhi
      go_wp2
      go_ret
      exact ⟨ret_bool HE.out, hg2 _ (hg1 _ (Grown.refl _))⟩
    · have HE : Hid (_ = true) := end_pos r a1 g HA.out hs hneg hlo hhi
      go_wp2
      go_ret
      exact ⟨ret_bool HE.out, hg2 _ (hg1 _ (Grown.refl _))⟩
  · rw [if_neg hn] at hs
    by_cases hneg : a0 < 0
    · have HE : Hid (_ = true) := end_neg r a0 g HA.out hs hneg hlo hhi
      go_wp2
      go_ret
      exact ⟨ret_bool HE.out, hg2 _ (hg1 _ (Grown.refl _))⟩
    · have HE : Hid (_ = true) := end_pos r a0 g HA.out hs hneg hlo hhi
      go_wp2
      go_ret
      exact ⟨ret_bool HE.out, hg2 _ (hg1 _ (Grown.refl _))⟩

/-! ### The row's step. -/
set_option maxRecDepth 100000 in
theorem lifted (os : Os) (started : os.Started) (H : Type) (enc : TypeId × Value → H) :
    ReturnsInHanded {} Yba.checked os 4 .any (Rows.lawS194102CWholeSpec.pre6 enc Yba.prog Yba.f4 Rows.lawS194102CWholeRow.domain false) (Rows.lawS194102CWholeSpec.post enc Yba.prog Yba.f4 false true false false) := by
  refine returnsInHanded_of_change (C := Yba.checked) own started (by kernel_rfl) Yba.func4
    (ChangeSpec.witness6 (enc := enc) (C := Yba.checked) false ⟨#[], #[.int .i64 0, .int .i64 0], []⟩ 8 (by kernel_rfl) (by kernel_rfl) (by kernel_rfl) (by kernel_rfl)) ?_
  intro W base args ds gs before hval0 hW hcnd _
  have hval : ∀ (j : Nat) t v, Yba.f4.params[j]? = some t → args[j]? = some v → Value.okWide Yba.prog W .any base t v := hval0
  have hW' := hW
  obtain ⟨p, q, hA0, hV, rfl, hfz, hnd⟩ := hW
  have hA : DataW.TrodAll enc Yba.prog W 0 (fun _ => true) true Yba.f4.params.toList args.toList ds p := hA0
  rw [Yba.params4] at hA hval
  obtain ⟨v0, vs0, d0, ds0, p0, q0, hargs, rfl, rfl, h0, r0⟩ := trodAll_cons hA
  obtain ⟨v1, vs1, d1, ds1, p1, q1, rfl, rfl, rfl, h1, r1⟩ := trodAll_cons r0
  obtain ⟨rfl, rfl, rfl⟩ := trodAll_nil r1
  obtain rfl : args = #[v0, v1] := by cases args; simp_all
  obtain ⟨rfl, rfl⟩ := trodVars_none hV
  obtain ⟨a0, rfl, rfl, rfl, w0⟩ := open_int Yba.underlying3 (hval 0 3 v0 rfl rfl) h0
  obtain ⟨a1, rfl, rfl, rfl, w1⟩ := open_int Yba.underlying3 (hval 1 3 v1 rfl rfl) h1
  clear hA0 hval0
  simp only [List.append_nil] at hW'
  refine (walk a0 a1 w0 w1 W).mono fun e W' ⟨he, hg⟩ => ?_
  subst he
  exact ⟨_, rfl, post_of_same (pa := []) (pv := []) hW' (fun _ _ _ => (trodAll_cons_mk (shut_bool Yba.underlying4 _) trodAll_mk0)) (fun sp _ => (trodAll_cons_mk (shut_int Yba.underlying3 w0) (trodAll_cons_mk (shut_int Yba.underlying3 w1) trodAll_mk0))) (fun _ _ => rfl) rfl
    (hg.frame _) hg.2.1 (ok_one (by kernel_rfl) rfl (okWide_bool_mk Yba.underlying4 _))⟩

theorem over : Rows.lawS194102CWholeRow.holds Yba.pinned (OpenSpec.ofChange Rows.lawS194102CWholeSpec) :=
  OpenClaim.holds_of_wide 4 Yba.f4 rfl rfl rfl rfl rfl rfl rfl ⟨rfl, rfl, rfl, rfl, rfl⟩ rfl rfl rfl rfl rfl (by kernel_rfl) Yba.func4 (by kernel_rfl)
    (of_decide_eq_true (by kernel_rfl)) (by unfold Func.isWrapper; first | (rw [if_pos (by decide +kernel)]; kernel_rfl) | (rw [if_neg (by decide +kernel)]; exact ⟨rfl, rfl⟩))
    (fun os started H enc _ => lifted os started H enc)

/-- The statement. -/
theorem proved : Rows.LawS194102CWholeSaid :=
  over
end Go.Proofs.Ybulkexovm.lawS194102CWhole
