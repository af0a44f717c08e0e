/-
  YouafwFlts: slices of float64: zzCloneFloats (9), ZZTypeArray (13); zzBytes_FnTypeNamesEveryJSONKind (7).
-/
import Derived.Test.YouafwTypeName
import Derived.Test.YouafwObjLaw
namespace Go.Proofs.Youafw
open Go.RowKit

theorem Uafg.info22 : (Uafg.prog.info? 22).map (fun i => (i.zero, i.size, i.bytes)) = some (some (.float .f64 0), 1, 8) := by kernel_rfl
theorem Uafg.info20' : (Uafg.prog.info? 20).map (fun i => (i.zero, i.size, i.bytes)) = some (some .nilIface, 1, 16) := by kernel_rfl

/-- A float64 by its bits. -/
abbrev encF : Nat → Value := fun b => .float .f64 b

/-- THE CELLS OF A SLICE OF float64s: none, or they lie in a row from an address on. -/
def FltsIn (w : World) (a : Option Addr) (fs : List Nat) : Prop :=
  fs = [] ∨ ∃ b off, a = some ⟨b, off, none⟩ ∧ ∀ j, j < fs.length → w.cell? ⟨b, off + j, none⟩ = some (encF (fs.getD j 0))

theorem FltsIn.cells {w : World} {a : Option Addr} {fs : List Nat} (h : FltsIn w a fs) : CellsIn w a (fs.map encF) := by
  rcases h with rfl | ⟨b, off, ha, hc⟩
  · exact .inl rfl
  · refine .inr ⟨_, ha, fun j v hv => ?_⟩
    have hj : j < fs.length := by have := (List.getElem?_eq_some_iff.1 hv).1; simpa using this
    rw [Addr.add_lit, hc j hj]
    rw [← hv]
    simp [hj]

theorem FltsIn.kept {w w' : World} {a : Option Addr} {fs : List Nat} (h : FltsIn w a fs) (hg : w.grownBy w' none) : FltsIn w' a fs := by
  rcases h with h | ⟨b, off, ha, hc⟩
  · exact .inl h
  · exact .inr ⟨b, off, ha, fun j hj => hg.cell (hc j hj) (by simp)⟩

theorem flts_oneCell (fs : List Nat) : ∀ u ∈ fs.map encF, u.oneCell' = true := by
  intro u hu
  obtain ⟨_, _, rfl⟩ := List.mem_map.1 hu
  rfl

/-! ### zzCloneFloats -/
theorem cloneFlts_nil (w : World) : Calls Uafg.prog 9 #[.slice none 0 0] w fun e w' => e = .returned (.slice none 0 0) ∧ w' = w := by
  have hq : ∀ (w : World) (a : Option Addr) (n c n' c' : Nat), (binOp .eql 23 (.slice a n c) (.slice none n' c')).run Uafg.prog w = .ok (.bool a.isNone) w := fun w a n c n' c' => Lib.run_eql_slice_nil w _ _ a n c n' c' Uafg.underlying23
  go_enter Uafg.func9, Uafg.ntmps9
  go_wp2
  go_ret
  exact ⟨rfl, rfl⟩

set_option maxHeartbeats 400000 in
theorem cloneFlts_some (ad : Addr) (n cap : Nat) (fs : List Nat) (w : World) (hn : fs.length = n) (hb : n ≤ 4096) (h : FltsIn w (some ad) fs) :
    Calls Uafg.prog 9 #[.slice (some ad) n cap] w fun e w' => e = .returned (.slice (some ⟨w.heap.size, 0, none⟩) n n) ∧ w'.ownsRow w.heap.size 22 1 (.slice (some ⟨w.heap.size, 0, none⟩) n n) n (fs.map encF) ∧ w.grownBy w' none := by
  have hq : ∀ (w : World) (a : Option Addr) (n c n' c' : Nat), (binOp .eql 23 (.slice a n c) (.slice none n' c')).run Uafg.prog w = .ok (.bool a.isNone) w := fun w a n c n' c' => Lib.run_eql_slice_nil w _ _ a n c n' c' Uafg.underlying23
  have hcells := h.cells
  obtain ⟨i0, hi, hz0, hz1, hz2⟩ := info_parts Uafg.info22
  have hi1 : (Uafg.prog.info? 22).map (·.size) = some 1 := by rw [hi]; simp [hz1]
  go_enter Uafg.func9, Uafg.ntmps9
  go_wp2_with (first
    | (at_make; refine wpList_make_full _ rfl _ _ 23 rfl w.heap.size 22 i0 (.float .f64 0) 1 Uafg.underlying23 hi hz0 hz1 _ _ _ _ n rfl rfl rfl rfl (by rw [hz2]; omega) (by unfold maxLen; omega) (Nat.le_refl _) ?_; intro w1 hown1 hg1)
    | (refine wpList_copy_whole rfl (.tmp 9) (.tmp 10) 23 23 rfl 22 Uafg.underlying23 hi1 w.heap.size w.heap.size n n (some ad) cap rfl rfl _ hown1 (fs.map encF) (by simpa using hn) (CellsIn.grown hcells hg1) (flts_oneCell fs) ?_; intro w2 hown2 hg2))
  go_ret
  exact ⟨rfl, hown2, hg1.andThen hg2 (fun j hj => by cases hj; exact .inl (Nat.le_refl _))⟩

theorem cloneFlts_any (a : Option Addr) (n cap : Nat) (fs : List Nat) (w : World) (ha : a = none → n = 0 ∧ cap = 0) (hn : fs.length = n) (hb : n ≤ 4096) (h : FltsIn w a fs) :
    Calls Uafg.prog 9 #[.slice a n cap] w fun e w' => ∃ a' c', e = .returned (.slice a' n c') ∧ (a' = none → n = 0 ∧ c' = 0) ∧ FltsIn w' a' fs ∧ w.grownBy w' none := by
  cases a with
  | none =>
    obtain ⟨rfl, rfl⟩ := ha rfl
    refine (cloneFlts_nil w).mono ?_
    rintro e w' ⟨rfl, rfl⟩
    exact ⟨none, 0, rfl, fun _ => ⟨rfl, rfl⟩, .inl (List.eq_nil_of_length_eq_zero hn), World.grownBy.refl _ _⟩
  | some ad =>
    refine (cloneFlts_some ad n cap fs w hn hb h).mono ?_
    rintro e w' ⟨rfl, hown, hg⟩
    refine ⟨_, _, rfl, by simp, .inr ⟨_, 0, rfl, fun j hj => ?_⟩, hg⟩
    rw [Nat.zero_add, hown.cellAt j (by omega)]
    simp [hj]

/-! ### ZZTypeArray -/
theorem typeArray_nil (w : World) : Calls Uafg.prog 13 #[.slice none 0 0] w fun e w' => e = .returned (.tuple #[.string sArray, .bool false]) ∧ w.grownBy w' none := by
  have hq : ∀ (w : World) (a : Option Addr) (n c n' c' : Nat), (binOp .eql 23 (.slice a n c) (.slice none n' c')).run Uafg.prog w = .ok (.bool a.isNone) w := fun w a n c n' c' => Lib.run_eql_slice_nil w _ _ a n c n' c' Uafg.underlying23
  have h27 := typeName_hit 46 (.slice none 0 0) sArray (fun p w h => jpfType_array p _ w h) w
  go_enter Uafg.func13, Uafg.ntmps13
  go_wp2_with (go_at_call 27; refine h27.mono ?_; rintro e w1 ⟨rfl, hg1⟩)
  go_ret2
  exact ⟨rfl, hg1⟩

set_option maxHeartbeats 400000 in
theorem typeArray_empty (ad : Addr) (cap : Nat) (w : World) : Calls Uafg.prog 13 #[.slice (some ad) 0 cap] w fun e w' => e = .returned (.tuple #[.string sArray, .bool false]) ∧ w.grownBy w' none := by
  have hq : ∀ (w : World) (a : Option Addr) (n c n' c' : Nat), (binOp .eql 23 (.slice a n c) (.slice none n' c')).run Uafg.prog w = .ok (.bool a.isNone) w := fun w a n c n' c' => Lib.run_eql_slice_nil w _ _ a n c n' c' Uafg.underlying23
  obtain ⟨i0, hi, hz0, hz1, hz2⟩ := info_parts Uafg.info20'
  go_enter Uafg.func13, Uafg.ntmps13
  go_wp2_with (at_make; refine wpList_make_full _ rfl _ _ 46 rfl w.heap.size 20 i0 .nilIface 1 Uafg.underlying46 hi hz0 hz1 _ _ _ _ 0 rfl rfl rfl rfl (by omega) (Nat.zero_le _) (Nat.le_refl _) ?_; intro w1 hown1 hg1)
  refine wp_loop_rounds 1 ?_
  rw [rounds_succ]
  go_wp2_with fail
  refine (typeName_hit 46 (.slice (some ⟨w.heap.size, 0, none⟩) 0 0) sArray (fun p w h => jpfType_array p _ w h) w1).mono ?_
  rintro e w2 ⟨rfl, hg2⟩
  go_wp2
  go_ret2
  exact ⟨rfl, hg1.andThen hg2 (fun j hj => by cases hj)⟩

set_option maxHeartbeats 400000 in
theorem typeArray_some (b off n cap : Nat) (fs : List Nat) (w : World) (hb : n ≤ 4096) (hc : ∀ j, j < n → w.cell? ⟨b, off + j, none⟩ = some (encF (fs.getD j 0))) :
    Calls Uafg.prog 13 #[.slice (some ⟨b, off, none⟩) n cap] w fun e w' => e = .returned (.tuple #[.string sArray, .bool false]) ∧ w.grownBy w' none := by
  have hq : ∀ (w : World) (a : Option Addr) (n c n' c' : Nat), (binOp .eql 23 (.slice a n c) (.slice none n' c')).run Uafg.prog w = .ok (.bool a.isNone) w := fun w a n c n' c' => Lib.run_eql_slice_nil w _ _ a n c n' c' Uafg.underlying23
  obtain ⟨i0, hi, hz0, hz1, hz2⟩ := info_parts Uafg.info20'
  go_enter Uafg.func13, Uafg.ntmps13
  go_wp2_with (at_make; refine wpList_make_full _ rfl _ _ 46 rfl w.heap.size 20 i0 .nilIface 1 Uafg.underlying46 hi hz0 hz1 _ _ _ _ n rfl rfl rfl rfl (by rw [hz2]; omega) (by unfold maxLen; omega) (Nat.le_refl _) ?_; intro w1 hown1 hg1)
  obtain ⟨B, hB⟩ : ∃ B, w.heap.size = B := ⟨_, rfl⟩
  rw [hB] at hown1 ⊢
  have HB : Hid (w.heap.size = B) := hB
  clear hB hq
  go_loopw [5] (fun i wr => ∃ (k : Nat) (L : List Value), k ≤ n ∧ i = .int .i64 k ∧ wr.ownsRow B 20 1 (.slice (some ⟨B, 0, none⟩) n n) n L ∧ w.grownBy wr none) (fun i _ => n - (intOf i).toNat)
  case atStart => exact ⟨0, _, Nat.zero_le _, rfl, hown1, hg1⟩
  case round =>
    clear hown1 hg1
    obtain ⟨k, L, hk, rfl, hrow, hgw⟩ := hrel
    by_cases hlt : k < n
    · have hck : wr.cell? ⟨b, off + k, none⟩ = some (encF (fs.getD k 0)) := hgw.cell (hc k hlt) (by simp)
      obtain ⟨f, hf⟩ : ∃ f, fs.getD k 0 = f := ⟨_, rfl⟩
      rw [hf] at hck
      clear hf
      obtain ⟨u, hu⟩ : ∃ u, wr.cell? ⟨B, k, none⟩ = some u := by
        have hl := hrow.1
        rw [hrow.cellAt k (by omega)]
        exact ⟨_, List.getElem?_eq_getElem (by omega)⟩
      have hfz := hrow.frozenAt k
      go_wp2
      go_roundw
      case rel =>
        obtain ⟨s1, s2⟩ := hrow.stored k (.iface 22 (encF f))
        exact ⟨k + 1, _, by omega, by go_num, s1, hgw.andThen s2 (fun j hj => by cases hj; exact .inl (Nat.le_of_eq HB.out))⟩
      case measure => simp [intOf]; omega
    · go_wp2_with fail
      refine (typeName_hit 46 (.slice (some ⟨B, 0, none⟩) n n) sArray (fun p w h => jpfType_array p _ w h) wr).mono ?_
      rintro e w2 ⟨rfl, hg2⟩
      go_wp2
      go_ret2
      exact ⟨rfl, hgw.andThen hg2 (fun j hj => by cases hj)⟩

theorem typeArray_any (a : Option Addr) (n cap : Nat) (fs : List Nat) (w : World) (ha : a = none → n = 0 ∧ cap = 0) (hn : fs.length = n) (hb : n ≤ 4096) (h : FltsIn w a fs) :
    Calls Uafg.prog 13 #[.slice a n cap] w fun e w' => e = .returned (.tuple #[.string sArray, .bool false]) ∧ w.grownBy w' none := by
  cases a with
  | none =>
    obtain ⟨rfl, rfl⟩ := ha rfl
    exact typeArray_nil w
  | some ad =>
    subst hn
    rcases h with rfl | ⟨b, off, he, hc⟩
    · exact typeArray_empty ad cap w
    · cases he
      exact typeArray_some b off _ cap fs w hb hc

/-! ### zzBytes_FnTypeNamesEveryJSONKind -/
set_option maxHeartbeats 400000 in
theorem bytesNam_some (f : Nat) (s : ByteArray) (ax : Option Addr) (nx cx : Nat) (bb : Bool) (b off n cap : Nat) (ss : List (List UInt8)) (w : World) (hs : s.size ≤ 140737488355328) (hx : nx ≤ 140737488355328) (hb : n ≤ 8796093022208) (hc : ∀ j, j < n → w.cell? ⟨b, off + j, none⟩ = some (encStr (ss.getD j []))) :
    Calls Uafg.prog 7 #[.float .f64 f, .string s, .slice ax nx cx, .slice (some ⟨b, off, none⟩) n cap, .bool bb] w fun e w' => SomeBool e ∧ w' = w := by
  go_enter Uafg.func7, Uafg.ntmps7
  go_wp2
  all_goals first | (go_ret; exact ⟨⟨_, rfl⟩, rfl⟩) | skip
  go_loop [11, 12] (fun t i => ∃ (k : Nat) (x : Int), k ≤ n ∧ i = .int .i64 k ∧ t = .int .i64 x) (fun _ i => n - (intOf i).toNat)
  case atStart => exact ⟨0, _, Nat.zero_le _, rfl, rfl⟩
  case round =>
    obtain ⟨k, x, hk, rfl, rfl⟩ := hrel
    by_cases hlt : k < n
    · have hck := hc k hlt
      go_wp2
      · go_ret
        exact ⟨⟨_, rfl⟩, rfl⟩
      · go_ret
        exact ⟨⟨_, rfl⟩, rfl⟩
      · go_round
        case rel => exact ⟨k + 1, _, by omega, by go_num, rfl⟩
        case measure => simp [intOf]; omega
    · go_wp2
      go_ret
      exact ⟨⟨_, rfl⟩, rfl⟩

set_option maxHeartbeats 400000 in
theorem bytesNam_none (f : Nat) (s : ByteArray) (ax : Option Addr) (nx cx : Nat) (bb : Bool) (a : Option Addr) (cap : Nat) (w : World) (hs : s.size ≤ 140737488355328) (hx : nx ≤ 140737488355328) :
    Calls Uafg.prog 7 #[.float .f64 f, .string s, .slice ax nx cx, .slice a 0 cap, .bool bb] w fun e w' => SomeBool e ∧ w' = w := by
  go_enter Uafg.func7, Uafg.ntmps7
  go_wp2
  all_goals first | (go_ret; exact ⟨⟨_, rfl⟩, rfl⟩) | skip
  refine wp_loop_rounds 1 ?_
  rw [rounds_succ]
  go_wp2
  go_ret
  exact ⟨⟨_, rfl⟩, rfl⟩

theorem bytesNam_any (f : Nat) (s : ByteArray) (ax : Option Addr) (nx cx : Nat) (bb : Bool) (a : Option Addr) (n cap : Nat) (ss : List (List UInt8)) (w : World) (hs : s.size ≤ 140737488355328) (hx : nx ≤ 140737488355328) (hn : ss.length = n) (hb : n ≤ 8796093022208) (h : StrsIn w a ss) :
    Calls Uafg.prog 7 #[.float .f64 f, .string s, .slice ax nx cx, .slice a n cap, .bool bb] w fun e w' => SomeBool e ∧ w' = w := by
  subst hn
  rcases h with rfl | ⟨b, off, rfl, hc⟩
  · exact bytesNam_none f s ax nx cx bb a cap w hs hx
  · exact bytesNam_some f s ax nx cx bb b off _ cap ss w hs hx hb hc

end Go.Proofs.Youafw
