/-
  A proof of 'Rows.LawS194080CWholeSaid' (jsonfeed.LawS194080CWhole). The frame is the guide's shell; the walk and the two contracts of 'str' are ours.
-/
import Derived.Test.YbulkexojqRows
import Derived.WalkKit
import Derived.ProofKit
import Derived.OpenShut
import Derived.ShutString
import Derived.LaidEqlPtr
namespace Go.Proofs.Ybulkexojq.lawS194080CWhole
open Go.ChangeShapes Go.WideShapes Go.ChangeAt Go.RowKit
open Go.ChangeMaps (open_string shut_string)
set_option linter.unusedVariables false      -- a walk need not use every 'w<i>' (that an integer argument fits its kind)

theorem own : ownKnob Yba.prog.godebug = none := by kernel_rfl

/-! ### The walks: 'str' by two contracts, then the law. -/
set_option maxHeartbeats 400000 in
theorem str_no (k n : Int) (t : ByteArray) (x y p : Value) (w : World) (hk : (k == 4) = false) :
    Calls Yba.prog 4 #[.agg #[.int .u8 k, .int .i64 n, .string t, x, y], p] w fun e w' => e = .returned (.bool false) ∧ w' = w.alloc (.cells #[.int .u8 k, .int .i64 n, .string t, x, y] 26) := by
  go_enter Yba.func4, Yba.ntmps4
  go_wp2
  go_ret
  exact ⟨rfl, rfl⟩
set_option maxHeartbeats 400000 in
theorem str_yes (n : Int) (t : ByteArray) (x y v : Value) (b : Nat) (w : World) (hb : b < w.heap.size) (hc : w.cell? ⟨b, 0, none⟩ = some v) (hf : w.frozen? ⟨b, 0, none⟩ = false) :
    Calls Yba.prog 4 #[.agg #[.int .u8 4, .int .i64 n, .string t, x, y], .pointer (some ⟨b, 0, none⟩)] w fun e w' => e = .returned (.bool true) ∧
      w' = ((w.setCell ⟨b, 0, none⟩ (.pointer (some ⟨w.heap.size + 1, 0, none⟩))).alloc (.cells #[.int .u8 4, .int .i64 n, .string t, x, y] 26)).alloc (.cells #[.string t] 9) := by
  go_enter Yba.func4, Yba.ntmps4
  go_wp2
  go_ret
  exact ⟨rfl, rfl⟩


theorem heap_at (w : World) (o : Obj) (i : Nat) : (w.alloc o).heap[i]? = if i = w.heap.size then some o else w.heap[i]? := by
  show (w.heap.push o)[i]? = _
  rw [Array.getElem?_push]
theorem size9 : (Yba.prog.info? 9).map (·.size) = some 1 := by kernel_rfl
set_option maxHeartbeats 1000000 in
theorem walk (a0 : Int) (a1 : Int) (a2 : ByteArray) (a3 : Bool) (a4 : ByteArray) (w0 : (Lit.int .u8 a0).wf = true) (w1 : (Lit.int .i64 a1).wf = true) (w2 : a2.size ≤ maxLen) (w4 : a4.size ≤ maxLen) (w : World) :
    Calls Yba.prog 3 #[.int .u8 a0, .int .i64 a1, .string a2, .bool a3, .string a4] w fun e w' => e = .returned (.bool true) ∧ Grown w w' := by
  obtain ⟨j, hj, hjs⟩ := Option.map_eq_some_iff.1 size9
  have hsz : j.size ≠ 0 := by rw [hjs]; decide
  clear hjs
  by_cases hk : a0 = 4
  · subst hk
    cases a3
    · go_enter Yba.func3, Yba.ntmps3
      go_wp2_with fail
      refine (str_yes a1 a2 _ _ (.pointer none) (w.heap.size + 1) _ (by simp) (by go_simp) (by go_simp)).mono ?_
      rintro e w' ⟨rfl, rfl⟩
      go_wp2
      go_ret
      exact ⟨rfl, by repeat (first | exact Grown.refl _ | apply Grown.drew | apply Grown.alloc)⟩
    · go_enter Yba.func3, Yba.ntmps3
      go_wp2_with fail
      refine (str_yes a1 a2 _ _ (.pointer (some ⟨w.heap.size + 1, 0, none⟩)) (w.heap.size + 2) _ (by simp) (by go_simp) (by go_simp)).mono ?_
      rintro e w' ⟨rfl, rfl⟩
      go_wp2
      rw [run_eql_ptr_other (te := 9) _ Yba.underlying27 hj hsz (by simp) (by rw [heap_at, if_pos (by simp)]) (by rw [heap_at, if_neg (by simp), heap_at, if_neg (by simp), heap_at, if_neg (by simp), heap_at, if_pos (by simp)])]
      go_wp2
      go_ret
      exact ⟨rfl, by repeat (first | exact Grown.refl _ | apply Grown.drew | apply Grown.alloc)⟩
  · have hk' : (a0 == 4) = false := by simp [hk]
    clear hk
    cases a3
    · go_enter Yba.func3, Yba.ntmps3
      go_wp2_with (go_at_call 4; refine (str_no _ _ _ _ _ _ _ hk').mono ?_; rintro e w' ⟨rfl, rfl⟩)
      go_ret
      exact ⟨rfl, by repeat (first | exact Grown.refl _ | apply Grown.drew | apply Grown.alloc)⟩
    · go_enter Yba.func3, Yba.ntmps3
      go_wp2_with (go_at_call 4; refine (str_no _ _ _ _ _ _ _ hk').mono ?_; rintro e w' ⟨rfl, rfl⟩)
      rw [run_eql_ptr_same (te := 9) _ _ Yba.underlying27 hj]
      go_wp2
      go_ret
      exact ⟨rfl, by repeat (first | exact Grown.refl _ | apply Grown.drew | apply Grown.alloc)⟩

/-! ### The row's step. -/
set_option maxRecDepth 100000 in
theorem lifted (os : Os) (started : os.Started) (H : Type) (enc : TypeId × Value → H) :
    ReturnsInHanded {} Yba.checked os 3 .any (Rows.lawS194080CWholeSpec.pre6 enc Yba.prog Yba.f3 Rows.lawS194080CWholeRow.domain false) (Rows.lawS194080CWholeSpec.post enc Yba.prog Yba.f3 false true false false) := by
  refine returnsInHanded_of_change (C := Yba.checked) own started (by kernel_rfl) Yba.func3
    (ChangeSpec.witness6 (enc := enc) (C := Yba.checked) false ⟨#[], #[.int .u8 0, .int .i64 0, .string ByteArray.empty, .bool false, .string ByteArray.empty], []⟩ 8 (by kernel_rfl) (by kernel_rfl) (by kernel_rfl) (by kernel_rfl)) ?_
  intro W base args ds gs before hval0 hW hcnd _
  have hval : ∀ (j : Nat) t v, Yba.f3.params[j]? = some t → args[j]? = some v → Value.okWide Yba.prog W .any base t v := hval0
  have hW' := hW
  obtain ⟨p, q, hA0, hV, rfl, hfz, hnd⟩ := hW
  have hA : DataW.TrodAll enc Yba.prog W 0 (fun _ => true) true Yba.f3.params.toList args.toList ds p := hA0
  rw [Yba.params3] at hA hval
  obtain ⟨v0, vs0, d0, ds0, p0, q0, hargs, rfl, rfl, h0, r0⟩ := trodAll_cons hA
  obtain ⟨v1, vs1, d1, ds1, p1, q1, rfl, rfl, rfl, h1, r1⟩ := trodAll_cons r0
  obtain ⟨v2, vs2, d2, ds2, p2, q2, rfl, rfl, rfl, h2, r2⟩ := trodAll_cons r1
  obtain ⟨v3, vs3, d3, ds3, p3, q3, rfl, rfl, rfl, h3, r3⟩ := trodAll_cons r2
  obtain ⟨v4, vs4, d4, ds4, p4, q4, rfl, rfl, rfl, h4, r4⟩ := trodAll_cons r3
  obtain ⟨rfl, rfl, rfl⟩ := trodAll_nil r4
  obtain rfl : args = #[v0, v1, v2, v3, v4] := by cases args; simp_all
  obtain ⟨rfl, rfl⟩ := trodVars_none hV
  obtain ⟨a0, rfl, rfl, rfl, w0⟩ := open_int Yba.underlying5 (hval 0 5 v0 rfl rfl) h0
  obtain ⟨a1, rfl, rfl, rfl, w1⟩ := open_int Yba.underlying3 (hval 1 3 v1 rfl rfl) h1
  obtain ⟨a2, rfl, rfl, rfl, w2⟩ := open_string Yba.underlying9 (hval 2 9 v2 rfl rfl) h2
  obtain ⟨a3, rfl, rfl, rfl⟩ := open_bool Yba.underlying4 (hval 3 4 v3 rfl rfl) h3
  obtain ⟨a4, rfl, rfl, rfl, w4⟩ := open_string Yba.underlying9 (hval 4 9 v4 rfl rfl) h4
  clear hA0 hval0
  simp only [List.append_nil] at hW'
  refine (walk a0 a1 a2 a3 a4 w0 w1 w2 w4 W).mono fun e W' ⟨he, hg⟩ => ?_
  subst he
  exact ⟨_, rfl, post_of_same (pa := []) (pv := []) hW' (fun _ _ _ => (trodAll_cons_mk (shut_bool Yba.underlying4 _) trodAll_mk0)) (fun sp _ => (trodAll_cons_mk (shut_int Yba.underlying5 w0) (trodAll_cons_mk (shut_int Yba.underlying3 w1) (trodAll_cons_mk (shut_string Yba.underlying9 w2) (trodAll_cons_mk (shut_bool Yba.underlying4 _) (trodAll_cons_mk (shut_string Yba.underlying9 w4) trodAll_mk0)))))) (fun _ _ => rfl) rfl
    (hg.frame _) hg.2.1 (ok_one (by kernel_rfl) rfl (okWide_bool_mk Yba.underlying4 _))⟩

theorem over : Rows.lawS194080CWholeRow.holds Yba.pinned (OpenSpec.ofChange Rows.lawS194080CWholeSpec) :=
  OpenClaim.holds_of_wide 3 Yba.f3 rfl rfl rfl rfl rfl rfl rfl ⟨rfl, rfl, rfl, rfl, rfl⟩ rfl rfl rfl rfl rfl (by kernel_rfl) Yba.func3 (by kernel_rfl)
    (of_decide_eq_true (by kernel_rfl)) (by unfold Func.isWrapper; first | (rw [if_pos (by decide +kernel)]; kernel_rfl) | (rw [if_neg (by decide +kernel)]; exact ⟨rfl, rfl⟩))
    (fun os started H enc _ => lifted os started H enc)

/-- The statement. -/
theorem proved : Rows.LawS194080CWholeSaid :=
  over
end Go.Proofs.Ybulkexojq.lawS194080CWhole
