/-
  The card of LawS194073BWhole: told (fmt's text by the authors' own function) and tied.
-/
import Derived.Test.YbulkexofwFmtShared
namespace Go.Proofs.YbulkexofwFmt
open Go.ChangeShapes Go.WideShapes Go.ChangeAt Go.RowKit
open Go.ChangeMaps (open_string shut_string)
open Go.Extern.Stop Go.Stop Go.Extern

namespace whole
set_option maxRecDepth 100000 in
theorem witness_row (os : Os) {H : Type} (enc : TypeId × Value → H) :
    (OpenSpec.ofChange Rows.lawS194073BWholeSpec).preRow enc Ybaf.prog Ybaf.f3 Rows.lawS194073BWholeRow.domain false Rows.lawS194073BWholeRow.laid
      ((laidW (World.holding Ybaf.prog os ⟨blocks, #[], []⟩) (World.settled Ybaf.prog os).heap.size).forCall (fun _ _ => 0) ⟨#[], #[.string ⟨#[]⟩], []⟩).memory #[.string ⟨#[]⟩] :=
  OpenSpec.preRow_of_B rfl 8 (by kernel_rfl) (by kernel_rfl) (laid_met os _)

set_option maxRecDepth 100000 in
set_option maxHeartbeats 1600000 in
theorem lifted (os : Os) (started : os.Started) (H : Type) (enc : TypeId × Value → H) :
    ReturnsInTold none {} Ybaf.checked os 3 .any Input.okWide ((OpenSpec.ofChange Rows.lawS194073BWholeSpec).preRow enc Ybaf.prog Ybaf.f3 Rows.lawS194073BWholeRow.domain false Rows.lawS194073BWholeRow.laid)
      (fun F => ((OpenSpec.ofChange Rows.lawS194073BWholeSpec).at F).post enc Ybaf.prog Ybaf.f3 false true false false) (aloneAtReturn Ybaf.prog) nothingAlways := by
  refine returnsInTold_of_row (C := Ybaf.checked) (s := OpenSpec.ofChange Rows.lawS194073BWholeSpec) (by kernel_rfl) own started (by kernel_rfl) Ybaf.func3
    (OpenSpec.witness_stopped_atRef (enc := enc) (C := Ybaf.checked) false (laidW (World.holding Ybaf.prog os ⟨blocks, #[], []⟩) (World.settled Ybaf.prog os).heap.size) #[.string ⟨#[]⟩] rfl (by kernel_rfl) (by kernel_rfl) (by kernel_rfl) (witness_row os enc)) ?_
  intro F W base args ds gs before _ hF hval0 hW _ _ _ hL _
  have hval : ∀ (j : Nat) t v, Ybaf.f3.params[j]? = some t → args[j]? = some v → Value.okWide Ybaf.prog W .any base t v := hval0
  have hW' := hW
  obtain ⟨p, q, hA0, hV0, rfl, _, _⟩ := hW
  have hA : DataW.TrodAll enc Ybaf.prog W 0 (fun _ => true) true Ybaf.f3.params.toList args.toList ds p := hA0
  rw [Ybaf.params3] at hA hval
  obtain ⟨v0, d0, rfl, rfl, h0⟩ := trodAll_one hA
  obtain ⟨rfl, rfl⟩ := trodVars_none hV0
  obtain ⟨s, rfl, rfl, rfl, ws⟩ := open_string Ybaf.underlying9 (hval 0 9 v0 rfl rfl) h0
  clear hA0 hV0 hval0
  obtain ⟨a0, a1, hv0, hv1⟩ := sentinels hL
  refine (whole_any F.told s 44 44 _ _ W hF ws hv0 hv1).mono fun e W' ⟨he, hb⟩ => ?_
  subst he
  refine ⟨_, rfl, _, _, _, [], [], [], hW', ?_, ?_, ?_, hb.frame _, fun h => by cases h⟩
  · exact trodAll_mk1 (shut_bool Ybaf.underlying4 _)
  · exact trodAll_mk1 (shut_string Ybaf.underlying9 ws)
  · rfl

/-- The statement. -/
theorem proved : Rows.LawS194073BWholeToldSaid :=
  Claim7.holds_of_told_tied_any_at .later 3 Ybaf.f3 "fmt.errorf" [] [] _ _ _ _ _ (by kernel_rfl) rfl rfl rfl laidOut (by kernel_rfl) rfl ⟨rfl, rfl, rfl, rfl, rfl, rfl, rfl⟩ rfl rfl (by kernel_rfl) (by kernel_rfl) Ybaf.func3 (by kernel_rfl)
    (of_decide_eq_true (by kernel_rfl)) (of_decide_eq_true (by kernel_rfl)) stops.symm rfl stopKnobs.symm (by kernel_rfl)
    (by kernel_rfl) (by kernel_rfl) (by kernel_rfl) (by kernel_rfl) (by kernel_rfl) (by kernel_rfl) (by kernel_rfl) (by kernel_rfl) (by kernel_rfl) rfl (by kernel_rfl) rfl rfl
    rfl rfl
    rfl (by kernel_rfl) (by kernel_rfl) (by kernel_rfl) (by decide) (by kernel_rfl) lawS194073BWhole_row_tie
    (OpenClaim.moreEntering_of (by kernel_rfl) (by kernel_rfl) (by kernel_rfl) (by kernel_rfl) (by kernel_rfl) (by kernel_rfl) (by kernel_rfl) (by kernel_rfl) (by kernel_rfl) (by kernel_rfl))
    ⟨_, WideRow.started_initial, quiet _⟩
    (fun os started _ H enc _ => lifted os started H enc)
end whole
end Go.Proofs.YbulkexofwFmt
