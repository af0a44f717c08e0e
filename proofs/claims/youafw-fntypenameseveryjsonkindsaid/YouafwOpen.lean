/-
  YouafwOpen: a []string argument, opened once for all the laws: its strings, where they lie, how many there can be.
-/
import Derived.Test.YouafwRows
import Derived.Test.YouafwObjLaw
import Derived.ProofKit
import Derived.SizedLaws
namespace Go.Proofs.Youafw
open Go.ChangeShapes Go.WideShapes Go.ChangeAt Go.RowKit

theorem Uafg.own : ownKnob Uafg.prog.godebug = none := by kernel_rfl
theorem Uafg.laidOut : laidOutB Uafg.prog = true := by kernel_rfl
theorem Uafg.cells9 : Uafg.prog.cellsOf 9 = 1 := by kernel_rfl
theorem Uafg.bytes9 : Uafg.prog.bytesOf 9 = 16 := by kernel_rfl

/-- WHAT A []string ARGUMENT IS: its strings, each as the list of its bytes. -/
theorem strs_view {H : Type} {enc : TypeId × Value → H} {W : World} {a : Option Addr} {len cap : Nat} {d : DataW H} {p : List MemPlace} (h : DataW.Trod enc Uafg.prog W 0 (fun _ => true) true 24 (.slice a len cap) d p) :
    ∃ ss : List (List UInt8), ss.length = len ∧ (a = none → len = 0 ∧ cap = 0) ∧ (∀ x ∈ ss, x.length ≤ maxLen) ∧ StrsIn W a ss ∧ (len = 0 ∨ ∃ el sp, d = .slice el sp ∧ el.length = len) := by
  obtain ⟨fuel, hf⟩ := h
  rcases open_strings Uafg.underlying24 Uafg.underlying9 Uafg.cells9 hf with ⟨hcs, hx⟩ | ⟨x, l, c, ss, hcs, _, hl, hm, hz, hx, hcell, hws⟩
  · simp [Value.cells] at hcs
    obtain ⟨rfl, rfl, rfl⟩ := hcs
    exact ⟨[], rfl, fun _ => ⟨rfl, rfl⟩, by simp, .inl rfl, .inl rfl⟩
  · simp [Value.cells] at hcs
    obtain ⟨rfl, rfl, rfl⟩ := hcs
    simp only [if_true] at hz
    have hll : len ≤ ss.length := by omega
    have hlen : ((ss.take len).map fun s => s.data.toList).length = len := by simp; omega
    refine ⟨(ss.take len).map fun s => s.data.toList, hlen, by simp, ?_, ?_, ?_⟩
    · intro y hy
      obtain ⟨s, hs, rfl⟩ := List.mem_map.1 hy
      rw [Array.length_toList]
      exact hws s (List.mem_of_mem_take hs)
    · by_cases h0 : len = 0
      · exact .inl (List.eq_nil_of_length_eq_zero (by rw [hlen]; exact h0))
      · obtain ⟨b, off, spot⟩ := x
        have hspot : spot = none := by simpa [Addr.add] using World.cell?_spot (hcell 0 (by omega))
        subst hspot
        refine .inr ⟨b, off, rfl, fun j hj => ?_⟩
        rw [hlen] at hj
        have := hcell j (by omega)
        rw [add_plain] at this
        rw [this]
        simp [show j < ss.length by omega, hj]
    · right
      simp only [Prod.mk.injEq] at hx
      exact ⟨_, _, hx.1, by simp [strs]; omega⟩

/-- THE FORM's OWN REACH, of one []string among the arguments. -/
theorem strs_reach {H : Type} {ts : List TypeId} {ds : List (DataW H)} (hsz : (DataW.weightsEach Uafg.prog ts ds).all (· ≤ reachBytes) = true) {j len : Nat} {d : DataW H} (ht : ts[j]? = some 24) (hd : ds[j]? = some d) (hlen : len = 0 ∨ ∃ el sp, d = .slice el sp ∧ el.length = len) : len ≤ 8796093022208 := by
  rcases hlen with rfl | ⟨el, sp, rfl, hl⟩
  · omega
  · have := sized_slice hsz (j := j) (t := 24) (e := 9) ht hd Uafg.underlying24
    rw [Uafg.bytes9] at this
    simp only [reachBytes] at this
    omega

theorem below_of_grown {w w' : World} (h : w.grownBy w' none) : Below w.heap.size w w' := ⟨h.os, h.tape, h.output, h.size, fun k hk => h.block k hk (by simp)⟩

end Go.Proofs.Youafw
