/-
  YouafwClone: the walk of zzCloneStrs (10).
-/
import Derived.Test.YouafwSmall
import Derived.Test.YouafwOwn
import Derived.Maps.Range
namespace Go.Proofs.Youafw
open Go.RowKit

theorem Uafg.info9 : (Uafg.prog.info? 9).map (fun i => (i.zero, i.size, i.bytes)) = some (some (.string ⟨#[]⟩), 1, 16) := by kernel_rfl

theorem StrsIn.cells {w : World} {a : Option Addr} {ss : List (List UInt8)} (h : StrsIn w a ss) : CellsIn w a (ss.map encStr) := by
  rcases h with rfl | ⟨b, off, ha, hc⟩
  · exact .inl rfl
  · refine .inr ⟨_, ha, fun j v hv => ?_⟩
    have hj : j < ss.length := by have := (List.getElem?_eq_some_iff.1 hv).1; simpa using this
    rw [Addr.add_lit, hc j hj]
    rw [← hv]
    simp [hj]

theorem strs_oneCell (ss : List (List UInt8)) : ∀ u ∈ ss.map encStr, u.oneCell' = true := by
  intro u hu
  obtain ⟨_, _, rfl⟩ := List.mem_map.1 hu
  rfl

theorem CellsIn.grown {w w' : World} {a : Option Addr} {cs : List Value} (h : CellsIn w a cs) (hg : w.grownBy w' none) : CellsIn w' a cs := by
  rcases h with rfl | ⟨ad, ha, hc⟩
  · exact .inl rfl
  · exact .inr ⟨ad, ha, fun j v hv => hg.cell (hc j v hv) (by simp)⟩

theorem cloneStrs_nil (w : World) : Calls Uafg.prog 10 #[.slice none 0 0] w fun e w' => e = .returned (.slice none 0 0) ∧ w' = w := by
  have hq : ∀ (w : World) (a : Option Addr) (n c n' c' : Nat), (binOp .eql 24 (.slice a n c) (.slice none n' c')).run Uafg.prog w = .ok (.bool a.isNone) w := fun w a n c n' c' => Lib.run_eql_slice_nil w _ _ a n c n' c' Uafg.underlying24
  go_enter Uafg.func10, Uafg.ntmps10
  go_wp2
  go_ret
  exact ⟨rfl, rfl⟩

set_option maxHeartbeats 400000 in
theorem cloneStrs_some (ad : Addr) (n cap : Nat) (ss : List (List UInt8)) (w : World) (hn : ss.length = n) (hb : n ≤ 4096) (h : StrsIn w (some ad) ss) :
    Calls Uafg.prog 10 #[.slice (some ad) n cap] w fun e w' => e = .returned (.slice (some ⟨w.heap.size, 0, none⟩) n n) ∧ w'.ownsRow w.heap.size 9 1 (.slice (some ⟨w.heap.size, 0, none⟩) n n) n (ss.map encStr) ∧ w.grownBy w' none := by
  have hq : ∀ (w : World) (a : Option Addr) (n c n' c' : Nat), (binOp .eql 24 (.slice a n c) (.slice none n' c')).run Uafg.prog w = .ok (.bool a.isNone) w := fun w a n c n' c' => Lib.run_eql_slice_nil w _ _ a n c n' c' Uafg.underlying24
  have hcells := h.cells
  obtain ⟨i0, hi, hz0, hz1, hz2⟩ := info_parts Uafg.info9
  have hi1 : (Uafg.prog.info? 9).map (·.size) = some 1 := by rw [hi]; simp [hz1]
  go_enter Uafg.func10, Uafg.ntmps10
  go_wp2_with (first
    | (at_make; refine wpList_make_full _ rfl _ _ 24 rfl w.heap.size 9 i0 (.string ⟨#[]⟩) 1 Uafg.underlying24 hi hz0 hz1 _ _ _ _ n rfl rfl rfl rfl (by rw [hz2]; omega) (by unfold maxLen; omega) (Nat.le_refl _) ?_; intro w1 hown1 hg1)
    | (refine wpList_copy_whole rfl (.tmp 9) (.tmp 10) 24 24 rfl 9 Uafg.underlying24 hi1 w.heap.size w.heap.size n n (some ad) cap rfl rfl _ hown1 (ss.map encStr) (by simpa using hn) (CellsIn.grown hcells hg1) (strs_oneCell ss) ?_; intro w2 hown2 hg2))
  go_ret
  exact ⟨rfl, hown2, hg1.andThen hg2 (fun j hj => by cases hj; exact .inl (Nat.le_refl _))⟩

end Go.Proofs.Youafw
