/-
  YouafwRefuseProof: 'Rows.FnTypeRefusesNonJSONValuesSaid', PROVED.
-/
import Derived.Test.YouafwOpen
import Derived.Test.YouafwRefuse
namespace Go.Proofs.Youafw
open Go.ChangeShapes Go.WideShapes Go.ChangeAt Go.RowKit

set_option maxRecDepth 100000 in
theorem refuse_lifted (os : Os) (started : os.Started) (H : Type) (enc : TypeId × Value → H) :
    ReturnsInHanded {} Uafg.checked os 4 .any (Rows.fnTypeRefusesNonJSONValuesSpec.pre6 enc Uafg.prog Uafg.f4 Rows.fnTypeRefusesNonJSONValuesRow.domain false) (Rows.fnTypeRefusesNonJSONValuesSpec.post enc Uafg.prog Uafg.f4 false true false false) := by
  refine returnsInHanded_of_change_sized (C := Uafg.checked) Uafg.own started (by kernel_rfl) Uafg.func4
    (ChangeSpec.witness6 (enc := enc) (C := Uafg.checked) false ⟨#[], #[.int .i64 0, .float .f32 0, .slice none 0 0], []⟩ 8 (by kernel_rfl) (by kernel_rfl) (by kernel_rfl) (by kernel_rfl)) ?_
  intro W base args ds gs before hval0 hW _ hsz0 _
  have hsz : (DataW.weightsEach Uafg.prog (Uafg.f4.params.toList ++ Rows.fnTypeRefusesNonJSONValuesSpec.plain.varTypes Uafg.prog) (ds ++ gs)).all (· ≤ reachBytes) = true := hsz0
  have hval : ∀ (j : Nat) t v, Uafg.f4.params[j]? = some t → args[j]? = some v → Value.okWide Uafg.prog W .any base t v := hval0
  have hW' := hW
  obtain ⟨p, q, hA0, hV, rfl, _, _⟩ := hW
  have hA : DataW.TrodAll enc Uafg.prog W 0 (fun _ => true) true Uafg.f4.params.toList args.toList ds p := hA0
  rw [Uafg.params4] at hA hval hsz
  obtain ⟨v0, v1, v2, d0, d1, d2, p0, p1, p2, rfl, rfl, rfl, h0, h1, h2⟩ := trodAll_three hA
  obtain ⟨rfl, rfl⟩ := trodVars_none hV
  obtain ⟨z, rfl, rfl, rfl, wz⟩ := open_int Uafg.underlying3 (hval 0 3 v0 rfl rfl) h0
  obtain ⟨f, rfl, rfl, rfl, wf⟩ := open_float Uafg.underlying36 (hval 1 36 v1 rfl rfl) h1
  obtain ⟨a2, len2, cap2, rfl⟩ := okWide_slice Uafg.underlying24 (hval 2 24 v2 rfl rfl)
  have lt2 : ∀ x ∈ p2, x.block < W.heap.size := by obtain ⟨m, hm⟩ := h2; exact DataW.trod_lt m _ _ _ hm
  obtain ⟨ss, hn, ha, _, hin, hlen⟩ := strs_view h2
  have hr := strs_reach hsz (j := 2) rfl rfl hlen
  clear hA0 hval0 hsz0
  refine (refuseLaw_any z f a2 len2 cap2 ss W ha hn hr hin).mono fun e W' ⟨he, hg⟩ => ?_
  subst he
  have bel := below_of_grown hg
  exact ⟨_, rfl, _, _, _, [], _, [], hW', trodAll_mk1 (shut_bool Uafg.underlying4 _), trodAll_mk3 (shut_int Uafg.underlying3 wz) (shut_float Uafg.underlying36 wf) (Below.trod Uafg.laidOut (by kernel_rfl) (of_decide_eq_true (by kernel_rfl)) h2 bel lt2), rfl, bel.frame _, fun h => by cases h⟩

/-- THE STATEMENT. -/
theorem refuse_proved : Rows.FnTypeRefusesNonJSONValuesSaid :=
  OpenClaim.holds_of_wide 4 Uafg.f4 rfl rfl rfl rfl rfl rfl rfl ⟨rfl, rfl, rfl, rfl, rfl⟩ rfl rfl rfl rfl rfl (by kernel_rfl) Uafg.func4 (by kernel_rfl)
    (of_decide_eq_true (by kernel_rfl)) (by unfold Func.isWrapper; first | (rw [if_pos (by decide +kernel)]; kernel_rfl) | (rw [if_neg (by decide +kernel)]; exact ⟨rfl, rfl⟩))
    (fun os started H enc _ => refuse_lifted os started H enc)

end Go.Proofs.Youafw
