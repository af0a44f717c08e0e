/-
  YouafwValsProof: 'Rows.FnValuesAreLastOccurrenceIndicesSaid', PROVED.
-/
import Derived.Test.YouafwOpen
import Derived.Test.YouafwValsNil
namespace Go.Proofs.Youafw
open Go.ChangeShapes Go.WideShapes Go.ChangeAt Go.RowKit

set_option maxRecDepth 100000 in
theorem values_lifted (os : Os) (started : os.Started) (H : Type) (enc : TypeId × Value → H) :
    ReturnsInHanded {} Uafg.checked os 6 .any (Rows.fnValuesAreLastOccurrenceIndicesSpec.pre6 enc Uafg.prog Uafg.f6 Rows.fnValuesAreLastOccurrenceIndicesRow.domain false) (Rows.fnValuesAreLastOccurrenceIndicesSpec.post enc Uafg.prog Uafg.f6 false true false false) := by
  refine returnsInHanded_of_change_sized (C := Uafg.checked) Uafg.own started (by kernel_rfl) Uafg.func6
    (ChangeSpec.witness6 (enc := enc) (C := Uafg.checked) false ⟨#[], #[.slice none 0 0], []⟩ 8 (by kernel_rfl) (by kernel_rfl) (by kernel_rfl) (by kernel_rfl)) ?_
  intro W base args ds gs before hval0 hW _ hsz0 _
  have hsz : (DataW.weightsEach Uafg.prog (Uafg.f6.params.toList ++ Rows.fnValuesAreLastOccurrenceIndicesSpec.plain.varTypes Uafg.prog) (ds ++ gs)).all (· ≤ reachBytes) = true := hsz0
  have hval : ∀ (j : Nat) t v, Uafg.f6.params[j]? = some t → args[j]? = some v → Value.okWide Uafg.prog W .any base t v := hval0
  have hW' := hW
  obtain ⟨p, q, hA0, hV, rfl, _, _⟩ := hW
  have hA : DataW.TrodAll enc Uafg.prog W 0 (fun _ => true) true Uafg.f6.params.toList args.toList ds p := hA0
  rw [Uafg.params6] at hA hval hsz
  obtain ⟨v0, d0, rfl, rfl, h0⟩ := trodAll_one hA
  obtain ⟨rfl, rfl⟩ := trodVars_none hV
  obtain ⟨a0, len0, cap0, rfl⟩ := okWide_slice Uafg.underlying24 (hval 0 24 v0 rfl rfl)
  have lt0 : ∀ x ∈ p, x.block < W.heap.size := by obtain ⟨m, hm⟩ := h0; exact DataW.trod_lt m _ _ _ hm
  obtain ⟨ss, hn, ha, hl, hin, hlen⟩ := strs_view h0
  have hr := strs_reach hsz (j := 0) rfl rfl hlen
  clear hA0 hval0 hsz0
  refine (valuesLaw_any a0 len0 cap0 ss W ha hn hr hl hin).mono fun e W' ⟨he, hg⟩ => ?_
  subst he
  have bel := below_of_grown hg
  exact ⟨_, rfl, _, _, _, [], _, [], hW', trodAll_mk1 (shut_bool Uafg.underlying4 _), trodAll_mk1 (Below.trod Uafg.laidOut (by kernel_rfl) (of_decide_eq_true (by kernel_rfl)) h0 bel lt0), rfl, bel.frame _, fun h => by cases h⟩

/-- THE STATEMENT. -/
theorem values_proved : Rows.FnValuesAreLastOccurrenceIndicesSaid :=
  OpenClaim.holds_of_wide 6 Uafg.f6 rfl rfl rfl rfl rfl rfl rfl ⟨rfl, rfl, rfl, rfl, rfl⟩ rfl rfl rfl rfl rfl (by kernel_rfl) Uafg.func6 (by kernel_rfl)
    (of_decide_eq_true (by kernel_rfl)) (by unfold Func.isWrapper; first | (rw [if_pos (by decide +kernel)]; kernel_rfl) | (rw [if_neg (by decide +kernel)]; exact ⟨rfl, rfl⟩))
    (fun os started H enc _ => values_lifted os started H enc)

end Go.Proofs.Youafw
