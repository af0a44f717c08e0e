/-
  YouafwOwn: laws of my own, over no program: a copy of a whole slice into a row of the call's own.
-/
import Derived.WalkKit
import Derived.WalkSpells
import Derived.WalkLawsBesides
import Derived.Laws.CopyOwn
namespace Go.Proofs.Youafw
open Go.RowKit

/-- WHERE THE CELLS cs OF A SLICE LIE: there are none, or they lie from an address on. -/
def CellsIn (w : World) (a : Option Addr) (cs : List Value) : Prop :=
  cs = [] ∨ ∃ ad, a = some ad ∧ ∀ j v, cs[j]? = some v → w.cell? (ad.add j) = some v

/-- 'copy(c, xs)', c A ROW OF THE CALL's OWN AS LONG AS xs: it then owns the cells of xs. -/
theorem wpList_copy_whole {P : Program} {w : World} {ops : Array Oper} {rest : List Oper} {o : Oper} {a : Act} {Q : Exit → Act → World → Prop} (hgd : o.guard = none) (d s : Operand) (dT sT : TypeId)
    (ho : o.op = .call { callee := .builtin .copy, args := #[d, s], argTypes := #[dT, sT] }) (elem : TypeId) (hu : P.underlying dT = some (.slice elem)) (hsz : (P.info? elem).map (·.size) = some 1)
    (base g n dCap : Nat) (sp : Option Addr) (sCap : Nat) (hd : a.eval d = .slice (some ⟨g, 0, none⟩) n dCap) (hs : a.eval s = .slice sp n sCap)
    (xs : List Value) (hown : w.ownsRow base elem 1 (.slice (some ⟨g, 0, none⟩) n dCap) n xs) (cs : List Value) (hn : cs.length = n) (hsrc : CellsIn w sp cs) (h1 : ∀ v ∈ cs, v.oneCell' = true)
    (h : ∀ w', w'.ownsRow base elem 1 (.slice (some ⟨g, 0, none⟩) n dCap) n cs → w.grownBy w' (some g) → wpList P ops Q rest (a.put o.dst (goInt n)) w') : wpList P ops Q (o :: rest) a w := by
  subst hn
  rcases hsrc with rfl | ⟨ad, rfl, hc⟩
  · refine wpList_copy_nothing hgd d s dT sT ho elem hu hsz _ _ _ _ _ _ hd hs (by simp) ?_
    have hx : xs = [] := List.eq_nil_of_length_eq_zero (by simpa using hown.1)
    subst hx
    exact h w hown (World.grownBy.refl _ _)
  · rcases hown.2 with ⟨h', _⟩ | ⟨g', cap', cur, h', hb, hg, hnc, hcm, hcs, htake⟩
    · simp at h'
    · simp only [Value.slice.injEq, Option.some.injEq, Addr.mk.injEq, and_true, true_and] at h'
      obtain ⟨rfl, rfl⟩ := h'
      refine wpList_copy_own hgd d s dT sT ho elem hu hsz g 0 _ _ ad _ _ hd hs cur elem hg cs (by simp) hc (by omega) h1 ?_
      refine h _ ⟨by simp, .inr ⟨g, dCap, _, rfl, hb, setRow_heap w g cur _ elem _ hg, hnc, hcm, ?_, ?_⟩⟩ ⟨rfl, rfl, rfl, by simp, fun k _ hk => setRow_other w g k _ (fun e => hk (by simp [e]))⟩
      · simp; omega
      · simp

end Go.Proofs.Youafw
