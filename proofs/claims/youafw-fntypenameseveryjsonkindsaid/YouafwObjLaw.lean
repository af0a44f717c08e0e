/-
  YouafwObjLaw: what the object has: plain laws on 'objTo'; and small laws on slices of strings and worlds.
-/
import Derived.Test.YouafwObj
namespace Go.Proofs.Youafw
open Go.RowKit Go.Maps

theorem isMap_objTo (ss : List (List UInt8)) : ∀ k, IsMap (objTo ss k)
  | 0 => isMap_empty
  | k + 1 => (isMap_objTo ss k).put _ _

/-- THE OBJECT HAS JUST THE KEYS OF THE LIST. -/
theorem has_objTo (ss : List (List UInt8)) (x : List UInt8) : ∀ k, k ≤ ss.length → (Maps.has (objTo ss k) (.string x) = true ↔ x ∈ ss.take k)
  | 0, _ => by simp [objTo, Maps.has]
  | k + 1, hk => by
    have ih := has_objTo ss x k (by omega)
    have e1 : ss.getD k [] = ss[k] := by simp [show k < ss.length by omega]
    rw [List.take_succ_eq_append_getElem (by omega), List.mem_append, List.mem_singleton, ← ih, ← e1, objTo]
    by_cases h : x = ss.getD k []
    · rw [h, has_put_same (isMap_objTo ss k) (k := .string (ss.getD k [])) (show WideAt.IsKeyLit (.string _) from trivial)]
      exact ⟨fun _ => .inr rfl, fun _ => rfl⟩
    · rw [has_put_other (fun e => h (by injection e))]
      exact ⟨.inl, fun e => e.resolve_right h⟩

theorem StrsIn.kept {w w' : World} {a : Option Addr} {ss : List (List UInt8)} (h : StrsIn w a ss) (hg : w.grownBy w' none) : StrsIn w' a ss := by
  rcases h with h | ⟨b, off, ha, hc⟩
  · exact .inl h
  · exact .inr ⟨b, off, ha, fun j hj => hg.cell (hc j hj) (by simp)⟩

/-- zzCloneStrs, whatever the slice. -/
theorem cloneStrs_any (a : Option Addr) (n cap : Nat) (ss : List (List UInt8)) (w : World) (ha : a = none → n = 0 ∧ cap = 0) (hn : ss.length = n) (hb : n ≤ 4096) (h : StrsIn w a ss) :
    Calls Uafg.prog 10 #[.slice a n cap] w fun e w' => ∃ a' c', e = .returned (.slice a' n c') ∧ StrsIn w' a' ss ∧ w.grownBy w' none := by
  cases a with
  | none =>
    obtain ⟨rfl, rfl⟩ := ha rfl
    refine (cloneStrs_nil w).mono ?_
    rintro e w' ⟨rfl, rfl⟩
    exact ⟨none, 0, rfl, .inl (List.eq_nil_of_length_eq_zero hn), World.grownBy.refl _ _⟩
  | some ad =>
    refine (cloneStrs_some ad n cap ss w hn hb h).mono ?_
    rintro e w' ⟨rfl, hown, hg⟩
    refine ⟨_, _, rfl, .inr ⟨_, 0, rfl, fun j hj => ?_⟩, hg⟩
    rw [Nat.zero_add, hown.cellAt j (by omega)]
    simp [hj]

theorem grown_drewN {w w' : World} {row : Option Nat} (h : w.grownBy w' row) (n : Nat) : w.grownBy (w'.drewN n) row := ⟨h.os, h.tape, h.output, h.size, h.block⟩

end Go.Proofs.Youafw
