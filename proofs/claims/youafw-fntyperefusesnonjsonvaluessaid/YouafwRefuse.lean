/-
  YouafwRefuse: THE WALK of FnTypeRefusesNonJSONValues (4), with its callees zzBytes_FnTypeRefusesNonJSONValues (17), ZZTypeInt (18), ZZTypeFloat32 (19), ZZTypeStrings (20).
-/
import Derived.Test.YouafwTypeName
import Derived.Test.YouafwObjLaw
namespace Go.Proofs.Youafw
open Go.RowKit

/-! ### zzBytes_FnTypeRefusesNonJSONValues -/
set_option maxHeartbeats 400000 in
theorem bytesRef_some (z : Int) (f : Nat) (b off n cap : Nat) (ss : List (List UInt8)) (w : World) (hb : n ≤ 8796093022208) (hc : ∀ j, j < n → w.cell? ⟨b, off + j, none⟩ = some (encStr (ss.getD j []))) :
    Calls Uafg.prog 17 #[.int .i64 z, .float .f32 f, .slice (some ⟨b, off, none⟩) n cap] w fun e w' => SomeBool e ∧ w' = w := by
  go_enter Uafg.func17, Uafg.ntmps17
  go_wp2
  · go_ret
    exact ⟨⟨_, rfl⟩, rfl⟩
  · go_loop [7, 8] (fun t i => ∃ (k : Nat) (x : Int), k ≤ n ∧ i = .int .i64 k ∧ t = .int .i64 x) (fun _ i => n - (intOf i).toNat)
    case atStart => exact ⟨0, _, Nat.zero_le _, rfl, rfl⟩
    case round =>
      obtain ⟨k, x, hk, rfl, rfl⟩ := hrel
      by_cases hlt : k < n
      · have hck := hc k hlt
        go_wp2
        · go_ret
          exact ⟨⟨_, rfl⟩, rfl⟩
        · go_ret
          exact ⟨⟨_, rfl⟩, rfl⟩
        · go_round
          case rel => exact ⟨k + 1, _, by omega, by go_num, rfl⟩
          case measure => simp [intOf]; omega
      · go_wp2
        go_ret
        exact ⟨⟨_, rfl⟩, rfl⟩

set_option maxHeartbeats 400000 in
theorem bytesRef_none (z : Int) (f : Nat) (a : Option Addr) (cap : Nat) (w : World) :
    Calls Uafg.prog 17 #[.int .i64 z, .float .f32 f, .slice a 0 cap] w fun e w' => SomeBool e ∧ w' = w := by
  go_enter Uafg.func17, Uafg.ntmps17
  go_wp2
  refine wp_loop_rounds 1 ?_
  rw [rounds_succ]
  go_wp2
  go_ret
  exact ⟨⟨_, rfl⟩, rfl⟩

theorem bytesRef_any (z : Int) (f : Nat) (a : Option Addr) (n cap : Nat) (ss : List (List UInt8)) (w : World) (hn : ss.length = n) (hb : n ≤ 8796093022208) (h : StrsIn w a ss) :
    Calls Uafg.prog 17 #[.int .i64 z, .float .f32 f, .slice a n cap] w fun e w' => SomeBool e ∧ w' = w := by
  subst hn
  rcases h with rfl | ⟨b, off, rfl, hc⟩
  · exact bytesRef_none z f a cap w
  · exact bytesRef_some z f b off _ cap ss w hb hc

/-! ### ZZTypeInt, ZZTypeFloat32, ZZTypeStrings: an error -/
theorem typeInt_any (z : Int) (w : World) : Calls Uafg.prog 18 #[.int .i64 z] w fun e w' => e = .returned (.tuple #[.string ⟨#[]⟩, .bool true]) ∧ w.grownBy w' none := by
  have h27 := typeName_alien 3 (by decide) (by decide) (by decide) (by decide) eq3 (.int .i64 z) w
  go_enter Uafg.func18, Uafg.ntmps18
  go_wp2_with (go_at_call 27; refine h27.mono ?_; rintro e w1 ⟨rfl, hg1⟩)
  go_ret2
  exact ⟨rfl, hg1⟩

theorem typeFloat32_any (f : Nat) (w : World) : Calls Uafg.prog 19 #[.float .f32 f] w fun e w' => e = .returned (.tuple #[.string ⟨#[]⟩, .bool true]) ∧ w.grownBy w' none := by
  have h27 := typeName_alien 36 (by decide) (by decide) (by decide) (by decide) eq36 (.float .f32 f) w
  go_enter Uafg.func19, Uafg.ntmps19
  go_wp2_with (go_at_call 27; refine h27.mono ?_; rintro e w1 ⟨rfl, hg1⟩)
  go_ret2
  exact ⟨rfl, hg1⟩

theorem typeStrings_any (a : Option Addr) (n cap : Nat) (w : World) : Calls Uafg.prog 20 #[.slice a n cap] w fun e w' => e = .returned (.tuple #[.string ⟨#[]⟩, .bool true]) ∧ w.grownBy w' none := by
  have h27 := typeName_alien 24 (by decide) (by decide) (by decide) (by decide) eq24 (.slice a n cap) w
  go_enter Uafg.func20, Uafg.ntmps20
  go_wp2_with (go_at_call 27; refine h27.mono ?_; rintro e w1 ⟨rfl, hg1⟩)
  go_ret2
  exact ⟨rfl, hg1⟩

/-! ### The law -/
set_option maxRecDepth 100000 in
set_option maxHeartbeats 1000000 in
theorem refuseLaw_any (z : Int) (f : Nat) (a : Option Addr) (n cap : Nat) (ss : List (List UInt8)) (w : World) (ha : a = none → n = 0 ∧ cap = 0) (hn : ss.length = n) (hr : n ≤ 8796093022208) (h : StrsIn w a ss) :
    Calls Uafg.prog 4 #[.int .i64 z, .float .f32 f, .slice a n cap] w fun e w' => e = .returned (.bool true) ∧ w.grownBy w' none := by
  have h17 := bytesRef_any z f a n cap ss w hn hr h
  have h8 := strBytes_any a n cap ss w hn hr h
  have h10 := cloneStrs_any a n cap ss w ha hn
  have HI : Hid (StrsIn w a ss) := h
  clear hn h ha
  go_enter Uafg.func4, Uafg.ntmps4
  go_wp2_with (first
    | (go_at_call 17; refine h17.mono ?_; rintro e w1 ⟨⟨t, rfl⟩, hw1⟩; obtain rfl : w = w1 := hw1.symm)
    | (go_at_call 8; refine h8.mono ?_; rintro e w2 ⟨⟨t2, rfl⟩, hw2⟩; obtain rfl : w = w2 := hw2.symm))
  · go_ret
    exact ⟨rfl, World.grownBy.refl _ _⟩
  · go_ret
    exact ⟨rfl, World.grownBy.refl _ _⟩
  · go_ret
    exact ⟨rfl, World.grownBy.refl _ _⟩
  · have hb : n ≤ 4096 := by omega
    refine (h10 hb HI.out).mono ?_
    rintro e w1 ⟨a', c', rfl, hin, hg1⟩
    clear h8 h17 h10 hin
    go_wp2_with fail
    refine (typeInt_any z w1).mono ?_
    rintro e w2 ⟨rfl, hg2⟩
    go_wp2_with fail
    refine (typeFloat32_any f w2).mono ?_
    rintro e w3 ⟨rfl, hg3⟩
    go_wp2_with fail
    refine (typeStrings_any a' n c' w3).mono ?_
    rintro e w4 ⟨rfl, hg4⟩
    go_wp2
    go_ret
    exact ⟨rfl, ((hg1.andThen hg2 (fun j hj => by cases hj)).andThen hg3 (fun j hj => by cases hj)).andThen hg4 (fun j hj => by cases hj)⟩

end Go.Proofs.Youafw
