/-
  YouafwValsNil: the same law at a nil list; and both in one.
-/
import Derived.Test.YouafwValsWalk
namespace Go.Proofs.Youafw
open Go.RowKit Go.Maps Go.Sort

set_option maxRecDepth 100000 in
set_option maxHeartbeats 1000000 in
theorem valuesLaw_nil (w : World) : Calls Uafg.prog 6 #[.slice none 0 0] w fun e w' => e = .returned (.bool true) ∧ w.grownBy w' none := by
  have h24 := bytesValues_none none 0 w
  have h8 := strBytes_none none 0 w
  have h10 := cloneStrs_nil w
  obtain ⟨i0, hi, hz0, hz1, hz2⟩ := info_parts Uafg.info3
  go_enter Uafg.func6, Uafg.ntmps6
  go_wp2_with (first
    | (go_at_call 24; refine h24.mono ?_; rintro e w1 ⟨⟨t, rfl⟩, hw1⟩; obtain rfl : w = w1 := hw1.symm)
    | (go_at_call 8; refine h8.mono ?_; rintro e w2 ⟨⟨t2, rfl⟩, hw2⟩; obtain rfl : w = w2 := hw2.symm)
    | (go_at_call 10; refine h10.mono ?_; rintro e w3 ⟨rfl, hw3⟩; obtain rfl : w = w3 := hw3.symm)
    | (at_make; refine wpList_make_own _ rfl _ _ 42 rfl w.heap.size 3 i0 (.int .i64 0) 1 Uafg.underlying42 hi hz0 hz1 _ _ _ 0 rfl rfl rfl (by omega) (Nat.zero_le _) (Nat.le_refl _) ?_; intro w2 hrow2 hg2))
  · go_ret
    exact ⟨rfl, World.grownBy.refl _ _⟩
  · go_ret
    exact ⟨rfl, World.grownBy.refl _ _⟩
  · clear h24 h8 h10
    refine wp_loop_rounds 1 ?_
    rw [rounds_succ]
    go_wp2_with fail
    refine (zzValues_any none 0 0 [] w2 rfl (by omega) (by simp) (.inl rfl)).mono ?_
    rintro e w7 ⟨g, m, rfl, hm, xs, hxl, hks, hrow7, hg7⟩
    go_wp2_with fail
    refine (sortInts_any _ g m m _ w7 (by simpa using hxl) hm hrow7).mono ?_
    rintro e w8 ⟨rfl, ⟨gs, hpg, hsg, hrow8⟩, hg8⟩
    have hlaw : gs = [] := values_law (ss := []) rfl (WantI.start [] 0) hks.1 (fun x => by rw [hks.2 x]; simp [objTo, Maps.has]) hpg hsg
    have hm0 : m = 0 := by
      have h1 : gs.length = m := by rw [hpg.length_eq]; simpa using hxl
      rw [← h1, hlaw]
      rfl
    subst hm0
    have hg78 : w2.grownBy w8 none := hg7.andThen hg8 (fun j hj => by cases hj; exact .inl (hrow7.lt g rfl).1)
    have hgw : w.grownBy w8 none := hg2.andThen hg78 (fun j hj => by cases hj)
    clear hg78 hrow7 hg7 hg8 hks hpg hsg hlaw hxl hrow8 hrow2 hg2
    go_wp2
    refine wp_loop_rounds 1 ?_
    rw [rounds_succ]
    go_wp2
    go_ret
    exact ⟨rfl, hgw⟩

theorem valuesLaw_any (a : Option Addr) (n cap : Nat) (ss : List (List UInt8)) (w : World) (ha : a = none → n = 0 ∧ cap = 0) (hn : ss.length = n) (hr : n ≤ 8796093022208) (hl : ∀ x ∈ ss, x.length ≤ maxLen) (h : StrsIn w a ss) :
    Calls Uafg.prog 6 #[.slice a n cap] w fun e w' => e = .returned (.bool true) ∧ w.grownBy w' none := by
  cases a with
  | none =>
    obtain ⟨rfl, rfl⟩ := ha rfl
    exact valuesLaw_nil w
  | some ad => exact valuesLaw_some ad n cap ss w hn hr hl h

end Go.Proofs.Youafw
