/-
  YouafwNamesProof: 'Rows.FnTypeNamesEveryJSONKindSaid', PROVED.
-/
import Derived.Test.YouafwOpen
import Derived.Test.YouafwNames
import Derived.Deep.Slices
import Derived.OpenShut
namespace Go.Proofs.Youafw
open Go.ChangeShapes Go.WideShapes Go.ChangeAt Go.RowKit
open Go.ChangeMaps (open_string shut_string)

theorem Uafg.cells22 : Uafg.prog.cellsOf 22 = 1 := by kernel_rfl
theorem Uafg.bytes22 : Uafg.prog.bytesOf 22 = 8 := by kernel_rfl

/-- What reads as a float64 IS one. -/
theorem trod_flt {H : Type} {enc : TypeId × Value → H} {W : World} {base : Nat} {sp : Nat → Bool} {held : Bool} {n : Nat} {v : Value} {y : DataW H × List MemPlace} (h : DataW.trod enc Uafg.prog W base sp held n 22 [v] = some y) : ∃ b, v = encF b := by
  cases n with
  | zero => simp [DataW.trod] at h
  | succ n =>
    simp only [DataW.trod, Uafg.underlying22] at h
    cases v <;> simp at h
    obtain ⟨⟨rfl, _⟩, _⟩ := h
    exact ⟨_, rfl⟩

/-- The bits of a float. -/
def bitsOf : Value → Nat
  | .float _ b => b
  | _ => 0

/-- WHAT A []float64 ARGUMENT IS: its numbers, by their bits. -/
theorem flts_view {H : Type} {enc : TypeId × Value → H} {W : World} {a : Option Addr} {len cap : Nat} {d : DataW H} {p : List MemPlace} (h : DataW.Trod enc Uafg.prog W 0 (fun _ => true) true 23 (.slice a len cap) d p) :
    ∃ fs : List Nat, fs.length = len ∧ (a = none → len = 0 ∧ cap = 0) ∧ FltsIn W a fs ∧ (len = 0 ∨ ∃ el sp, d = .slice el sp ∧ el.length = len) := by
  obtain ⟨fuel, hf⟩ := h
  rcases Go.Deep.open_slice1 Uafg.underlying23 Uafg.cells22 hf with ⟨hcs, hx⟩ | ⟨x, l, c, m, n, V, D, Pl, hcs, _, hl, hm, hmm, hx, hcell⟩
  · simp [Value.cells] at hcs
    obtain ⟨rfl, rfl, rfl⟩ := hcs
    exact ⟨[], rfl, fun _ => ⟨rfl, rfl⟩, .inl rfl, .inl rfl⟩
  · simp [Value.cells] at hcs
    obtain ⟨rfl, rfl, rfl⟩ := hcs
    simp only [if_true] at hmm
    subst hmm
    have hbits : ∀ i, i < len → V i = encF (bitsOf (V i)) := fun i hi => by
      obtain ⟨b, hb⟩ := trod_flt (hcell i (by omega)).2
      rw [hb]
      rfl
    refine ⟨(List.range len).map fun i => bitsOf (V i), by simp, by simp, ?_, ?_⟩
    · by_cases h0 : len = 0
      · exact .inl (by rw [h0]; rfl)
      · obtain ⟨b, off, spot⟩ := x
        have hspot : spot = none := by simpa [Addr.add] using World.cell?_spot (hcell 0 (by omega)).1
        subst hspot
        refine .inr ⟨b, off, rfl, fun j hj => ?_⟩
        have hj' : j < len := by simpa using hj
        have h1 := (hcell j (by omega)).1
        rw [add_plain] at h1
        have e1 : ((List.range len).map fun i => bitsOf (V i)).getD j 0 = bitsOf (V j) := by simp [hj']
        rw [h1, e1, ← hbits j hj']
    · right
      simp only [Prod.mk.injEq] at hx
      exact ⟨_, _, hx.1, by simp⟩

theorem flts_reach {H : Type} {ts : List TypeId} {ds : List (DataW H)} (hsz : (DataW.weightsEach Uafg.prog ts ds).all (· ≤ reachBytes) = true) {j len : Nat} {d : DataW H} (ht : ts[j]? = some 23) (hd : ds[j]? = some d) (hlen : len = 0 ∨ ∃ el sp, d = .slice el sp ∧ el.length = len) : len ≤ 140737488355328 := by
  rcases hlen with rfl | ⟨el, sp, rfl, hl⟩
  · omega
  · have := sized_slice hsz (j := j) (t := 23) (e := 22) ht hd Uafg.underlying23
    rw [Uafg.bytes22] at this
    simp only [reachBytes] at this
    omega

set_option maxRecDepth 100000 in
theorem names_lifted (os : Os) (started : os.Started) (H : Type) (enc : TypeId × Value → H) :
    ReturnsInHanded {} Uafg.checked os 3 .any (Rows.fnTypeNamesEveryJSONKindSpec.pre6 enc Uafg.prog Uafg.f3 Rows.fnTypeNamesEveryJSONKindRow.domain false) (Rows.fnTypeNamesEveryJSONKindSpec.post enc Uafg.prog Uafg.f3 false true false false) := by
  refine returnsInHanded_of_change_sized (C := Uafg.checked) Uafg.own started (by kernel_rfl) Uafg.func3
    (ChangeSpec.witness6 (enc := enc) (C := Uafg.checked) false ⟨#[], #[.float .f64 0, .string ⟨#[]⟩, .slice none 0 0, .slice none 0 0, .bool false], []⟩ 8 (by kernel_rfl) (by kernel_rfl) (by kernel_rfl) (by kernel_rfl)) ?_
  intro W base args ds gs before hval0 hW _ hsz0 _
  have hsz : (DataW.weightsEach Uafg.prog (Uafg.f3.params.toList ++ Rows.fnTypeNamesEveryJSONKindSpec.plain.varTypes Uafg.prog) (ds ++ gs)).all (· ≤ reachBytes) = true := hsz0
  have hval : ∀ (j : Nat) t v, Uafg.f3.params[j]? = some t → args[j]? = some v → Value.okWide Uafg.prog W .any base t v := hval0
  have hW' := hW
  obtain ⟨p, q, hA0, hV, rfl, _, _⟩ := hW
  have hA : DataW.TrodAll enc Uafg.prog W 0 (fun _ => true) true Uafg.f3.params.toList args.toList ds p := hA0
  rw [Uafg.params3] at hA hval hsz
  obtain ⟨v0, vs0, d0, ds0, p0, q0, hargs, rfl, rfl, h0, r0⟩ := trodAll_cons hA
  obtain ⟨v1, vs1, d1, ds1, p1, q1, rfl, rfl, rfl, h1, r1⟩ := trodAll_cons r0
  obtain ⟨v2, vs2, d2, ds2, p2, q2, rfl, rfl, rfl, h2, r2⟩ := trodAll_cons r1
  obtain ⟨v3, vs3, d3, ds3, p3, q3, rfl, rfl, rfl, h3, r3⟩ := trodAll_cons r2
  obtain ⟨v4, vs4, d4, ds4, p4, q4, rfl, rfl, rfl, h4, r4⟩ := trodAll_cons r3
  obtain ⟨rfl, rfl, rfl⟩ := trodAll_nil r4
  obtain rfl : args = #[v0, v1, v2, v3, v4] := by cases args; simp_all
  obtain ⟨rfl, rfl⟩ := trodVars_none hV
  obtain ⟨f, rfl, rfl, rfl, wf⟩ := open_float Uafg.underlying22 (hval 0 22 v0 rfl rfl) h0
  obtain ⟨s, rfl, rfl, rfl, hs⟩ := open_string Uafg.underlying9 (hval 1 9 v1 rfl rfl) h1
  obtain ⟨a2, len2, cap2, rfl⟩ := okWide_slice Uafg.underlying23 (hval 2 23 v2 rfl rfl)
  obtain ⟨a3, len3, cap3, rfl⟩ := okWide_slice Uafg.underlying24 (hval 3 24 v3 rfl rfl)
  obtain ⟨b, rfl, rfl, rfl⟩ := open_bool Uafg.underlying4 (hval 4 4 v4 rfl rfl) h4
  have lt2 : ∀ x ∈ p2, x.block < W.heap.size := by obtain ⟨m, hm⟩ := h2; exact DataW.trod_lt m _ _ _ hm
  have lt3 : ∀ x ∈ p3, x.block < W.heap.size := by obtain ⟨m, hm⟩ := h3; exact DataW.trod_lt m _ _ _ hm
  obtain ⟨fs, hnx, hax, hinx, hlenx⟩ := flts_view h2
  obtain ⟨ss, hn, ha, hl, hin, hlen⟩ := strs_view h3
  have hrs : s.size ≤ 140737488355328 := by
    have := sized_string hsz (j := 1) (t := 9) rfl rfl
    rw [Array.length_toList] at this
    simp only [reachBytes] at this
    have e : s.data.size = s.size := rfl
    omega
  have hrx := flts_reach hsz (j := 2) rfl rfl hlenx
  have hr := strs_reach hsz (j := 3) rfl rfl hlen
  clear hA0 hval0 hsz0
  refine (namesLaw_any f s a2 len2 cap2 fs a3 len3 cap3 ss b W hrs hax hnx hrx hinx ha hn hr hl hin).mono fun e W' ⟨he, hg⟩ => ?_
  subst he
  have bel := below_of_grown hg
  exact ⟨_, rfl, _, _, _, [], _, [], hW', trodAll_mk1 (shut_bool Uafg.underlying4 _), (trodAll_cons_mk (shut_float Uafg.underlying22 wf) (trodAll_cons_mk (shut_string Uafg.underlying9 hs) (trodAll_cons_mk (Below.trod Uafg.laidOut (by kernel_rfl) (of_decide_eq_true (by kernel_rfl)) h2 bel lt2) (trodAll_cons_mk (Below.trod Uafg.laidOut (by kernel_rfl) (of_decide_eq_true (by kernel_rfl)) h3 bel lt3) (trodAll_cons_mk (shut_bool Uafg.underlying4 _) trodAll_mk0))))), rfl, bel.frame _, fun h => by cases h⟩

/-- THE STATEMENT. -/
theorem names_proved : Rows.FnTypeNamesEveryJSONKindSaid :=
  OpenClaim.holds_of_wide 3 Uafg.f3 rfl rfl rfl rfl rfl rfl rfl ⟨rfl, rfl, rfl, rfl, rfl⟩ rfl rfl rfl rfl rfl (by kernel_rfl) Uafg.func3 (by kernel_rfl)
    (of_decide_eq_true (by kernel_rfl)) (by unfold Func.isWrapper; first | (rw [if_pos (by decide +kernel)]; kernel_rfl) | (rw [if_neg (by decide +kernel)]; exact ⟨rfl, rfl⟩))
    (fun os started H enc _ => names_lifted os started H enc)

end Go.Proofs.Youafw
