/-
  YouafwSmall: the walks of the small helpers of the laws: zzStrBytes (8), zzBytes_FnKeysAreTheDistinctKeys (21), zzBytes_FnValuesAreLastOccurrenceIndices (24), zzBytes_FnTypeRefusesNonJSONValues (17), zzBytes_FnTypeNamesEveryJSONKind (7).
  Of these the laws need only: the call comes back, with some number or some bool, and nothing has turned.
-/
import Derived.Test.YouafwProg
import Derived.WalkKit
import Derived.WalkSpells
import Derived.WalkLawsBesides
import Derived.Sort.EncStr
namespace Go.Proofs.Youafw
open Go.RowKit

/-- THE CELLS OF A SLICE OF STRINGS: none, or they lie in a row from an address on. -/
def StrsIn (w : World) (a : Option Addr) (ss : List (List UInt8)) : Prop :=
  ss = [] ∨ ∃ b off, a = some ⟨b, off, none⟩ ∧ ∀ j, j < ss.length → w.cell? ⟨b, off + j, none⟩ = some (encStr (ss.getD j []))

theorem StrsIn.below {w w' : World} {a : Option Addr} {ss : List (List UInt8)} (h : StrsIn w a ss) (hb : ∀ b off, a = some ⟨b, off, none⟩ → w'.heap[b]? = w.heap[b]?) : StrsIn w' a ss := by
  rcases h with h | ⟨b, off, ha, hc⟩
  · exact .inl h
  · exact .inr ⟨b, off, ha, fun j hj => (World.cell?_of_block (a := ⟨b, off + j, none⟩) (hb b off ha)).trans (hc j hj)⟩

/-- THE CALL CAME BACK WITH SOME BOOL, SOME int. -/
def SomeBool (e : Ending) : Prop := ∃ t, e = .returned (.bool t)
def SomeInt (e : Ending) : Prop := ∃ t, e = .returned (.int .i64 t)

/-! ### zzStrBytes -/
set_option maxHeartbeats 400000 in
theorem strBytes_some (b off n cap : Nat) (ss : List (List UInt8)) (w : World) (hb : n ≤ 8796093022208) (hc : ∀ j, j < n → w.cell? ⟨b, off + j, none⟩ = some (encStr (ss.getD j []))) :
    Calls Uafg.prog 8 #[.slice (some ⟨b, off, none⟩) n cap] w fun e w' => SomeInt e ∧ w' = w := by
  go_enter Uafg.func8, Uafg.ntmps8
  go_wp2
  · go_ret
    exact ⟨⟨_, rfl⟩, rfl⟩
  · go_loop [3, 4] (fun t i => ∃ (k : Nat) (x : Int), k ≤ n ∧ i = .int .i64 k ∧ t = .int .i64 x) (fun _ i => n - (intOf i).toNat)
    case atStart => exact ⟨0, _, Nat.zero_le _, rfl, rfl⟩
    case round =>
      obtain ⟨k, x, hk, rfl, rfl⟩ := hrel
      by_cases hlt : k < n
      · have hck := hc k hlt
        go_wp2
        · go_ret
          exact ⟨⟨_, rfl⟩, rfl⟩
        · go_round
          case rel => exact ⟨k + 1, _, by omega, by go_num, rfl⟩
          case measure => simp [intOf]; omega
      · go_wp2
        go_ret
        exact ⟨⟨_, rfl⟩, rfl⟩

set_option maxHeartbeats 400000 in
theorem strBytes_none (a : Option Addr) (cap : Nat) (w : World) :
    Calls Uafg.prog 8 #[.slice a 0 cap] w fun e w' => SomeInt e ∧ w' = w := by
  go_enter Uafg.func8, Uafg.ntmps8
  go_wp2
  refine wp_loop_rounds 1 ?_
  rw [rounds_succ]
  go_wp2
  go_ret
  exact ⟨⟨_, rfl⟩, rfl⟩

theorem strBytes_any (a : Option Addr) (n cap : Nat) (ss : List (List UInt8)) (w : World) (hn : ss.length = n) (hb : n ≤ 8796093022208) (h : StrsIn w a ss) :
    Calls Uafg.prog 8 #[.slice a n cap] w fun e w' => SomeInt e ∧ w' = w := by
  subst hn
  rcases h with rfl | ⟨b, off, rfl, hc⟩
  · exact strBytes_none a cap w
  · exact strBytes_some b off _ cap ss w hb hc

/-! ### zzBytes_FnKeysAreTheDistinctKeys -/
set_option maxHeartbeats 400000 in
theorem bytesKeys_some (b off n cap : Nat) (ss : List (List UInt8)) (w : World) (hb : n ≤ 8796093022208) (hc : ∀ j, j < n → w.cell? ⟨b, off + j, none⟩ = some (encStr (ss.getD j []))) :
    Calls Uafg.prog 21 #[.slice (some ⟨b, off, none⟩) n cap] w fun e w' => SomeBool e ∧ w' = w := by
  go_enter Uafg.func21, Uafg.ntmps21
  go_wp2
  · go_ret
    exact ⟨⟨_, rfl⟩, rfl⟩
  · go_loop [3, 4] (fun t i => ∃ (k : Nat) (x : Int), k ≤ n ∧ i = .int .i64 k ∧ t = .int .i64 x) (fun _ i => n - (intOf i).toNat)
    case atStart => exact ⟨0, _, Nat.zero_le _, rfl, rfl⟩
    case round =>
      obtain ⟨k, x, hk, rfl, rfl⟩ := hrel
      by_cases hlt : k < n
      · have hck := hc k hlt
        go_wp2
        · go_ret
          exact ⟨⟨_, rfl⟩, rfl⟩
        · go_ret
          exact ⟨⟨_, rfl⟩, rfl⟩
        · go_round
          case rel => exact ⟨k + 1, _, by omega, by go_num, rfl⟩
          case measure => simp [intOf]; omega
      · go_wp2
        go_ret
        exact ⟨⟨_, rfl⟩, rfl⟩

set_option maxHeartbeats 400000 in
theorem bytesKeys_none (a : Option Addr) (cap : Nat) (w : World) :
    Calls Uafg.prog 21 #[.slice a 0 cap] w fun e w' => SomeBool e ∧ w' = w := by
  go_enter Uafg.func21, Uafg.ntmps21
  go_wp2
  refine wp_loop_rounds 1 ?_
  rw [rounds_succ]
  go_wp2
  go_ret
  exact ⟨⟨_, rfl⟩, rfl⟩

theorem bytesKeys_any (a : Option Addr) (n cap : Nat) (ss : List (List UInt8)) (w : World) (hn : ss.length = n) (hb : n ≤ 8796093022208) (h : StrsIn w a ss) :
    Calls Uafg.prog 21 #[.slice a n cap] w fun e w' => SomeBool e ∧ w' = w := by
  subst hn
  rcases h with rfl | ⟨b, off, rfl, hc⟩
  · exact bytesKeys_none a cap w
  · exact bytesKeys_some b off _ cap ss w hb hc

/-! ### zzBytes_FnValuesAreLastOccurrenceIndices -/
set_option maxHeartbeats 400000 in
theorem bytesValues_some (b off n cap : Nat) (ss : List (List UInt8)) (w : World) (hb : n ≤ 8796093022208) (hc : ∀ j, j < n → w.cell? ⟨b, off + j, none⟩ = some (encStr (ss.getD j []))) :
    Calls Uafg.prog 24 #[.slice (some ⟨b, off, none⟩) n cap] w fun e w' => SomeBool e ∧ w' = w := by
  go_enter Uafg.func24, Uafg.ntmps24
  go_wp2
  · go_ret
    exact ⟨⟨_, rfl⟩, rfl⟩
  · go_loop [3, 4] (fun t i => ∃ (k : Nat) (x : Int), k ≤ n ∧ i = .int .i64 k ∧ t = .int .i64 x) (fun _ i => n - (intOf i).toNat)
    case atStart => exact ⟨0, _, Nat.zero_le _, rfl, rfl⟩
    case round =>
      obtain ⟨k, x, hk, rfl, rfl⟩ := hrel
      by_cases hlt : k < n
      · have hck := hc k hlt
        go_wp2
        · go_ret
          exact ⟨⟨_, rfl⟩, rfl⟩
        · go_ret
          exact ⟨⟨_, rfl⟩, rfl⟩
        · go_round
          case rel => exact ⟨k + 1, _, by omega, by go_num, rfl⟩
          case measure => simp [intOf]; omega
      · go_wp2
        go_ret
        exact ⟨⟨_, rfl⟩, rfl⟩

set_option maxHeartbeats 400000 in
theorem bytesValues_none (a : Option Addr) (cap : Nat) (w : World) :
    Calls Uafg.prog 24 #[.slice a 0 cap] w fun e w' => SomeBool e ∧ w' = w := by
  go_enter Uafg.func24, Uafg.ntmps24
  go_wp2
  refine wp_loop_rounds 1 ?_
  rw [rounds_succ]
  go_wp2
  go_ret
  exact ⟨⟨_, rfl⟩, rfl⟩

theorem bytesValues_any (a : Option Addr) (n cap : Nat) (ss : List (List UInt8)) (w : World) (hn : ss.length = n) (hb : n ≤ 8796093022208) (h : StrsIn w a ss) :
    Calls Uafg.prog 24 #[.slice a n cap] w fun e w' => SomeBool e ∧ w' = w := by
  subst hn
  rcases h with rfl | ⟨b, off, rfl, hc⟩
  · exact bytesValues_none a cap w
  · exact bytesValues_some b off _ cap ss w hb hc

end Go.Proofs.Youafw
