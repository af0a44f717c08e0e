/-
  YouafwNames: THE WALK of FnTypeNamesEveryJSONKind (3), with its callees ZZTypeNumber (11), ZZTypeString (12), ZZTypeObject (14), ZZTypeNull (15), ZZTypeBool (16).
-/
import Derived.Test.YouafwFlts
namespace Go.Proofs.Youafw
open Go.RowKit

theorem typeNumber_any (f : Nat) (w : World) : Calls Uafg.prog 11 #[.float .f64 f] w fun e w' => e = .returned (.tuple #[.string sNumber, .bool false]) ∧ w.grownBy w' none := by
  have h27 := typeName_hit 22 (.float .f64 f) sNumber (fun p w h => jpfType_number p _ w h) w
  go_enter Uafg.func11, Uafg.ntmps11
  go_wp2_with (go_at_call 27; refine h27.mono ?_; rintro e w1 ⟨rfl, hg1⟩)
  go_ret2
  exact ⟨rfl, hg1⟩

theorem typeString_any (s : ByteArray) (w : World) : Calls Uafg.prog 12 #[.string s] w fun e w' => e = .returned (.tuple #[.string sString, .bool false]) ∧ w.grownBy w' none := by
  have h27 := typeName_hit 9 (.string s) sString (fun p w h => jpfType_string p _ w h) w
  go_enter Uafg.func12, Uafg.ntmps12
  go_wp2_with (go_at_call 27; refine h27.mono ?_; rintro e w1 ⟨rfl, hg1⟩)
  go_ret2
  exact ⟨rfl, hg1⟩

theorem typeNull_any (w : World) : Calls Uafg.prog 15 #[] w fun e w' => e = .returned (.tuple #[.string sNull, .bool false]) ∧ w.grownBy w' none := by
  have h27 := typeName_null w
  go_enter Uafg.func15, Uafg.ntmps15
  go_wp2_with (go_at_call 27; refine h27.mono ?_; rintro e w1 ⟨rfl, hg1⟩)
  go_ret2
  exact ⟨rfl, hg1⟩

theorem typeBool_any (b : Bool) (w : World) : Calls Uafg.prog 16 #[.bool b] w fun e w' => e = .returned (.tuple #[.string sBoolean, .bool false]) ∧ w.grownBy w' none := by
  have h27 := typeName_hit 4 (.bool b) sBoolean (fun p w h => jpfType_boolean p b w h) w
  go_enter Uafg.func16, Uafg.ntmps16
  go_wp2_with (go_at_call 27; refine h27.mono ?_; rintro e w1 ⟨rfl, hg1⟩)
  go_ret2
  exact ⟨rfl, hg1⟩

theorem typeObject_nil (n cap : Nat) (w : World) : Calls Uafg.prog 14 #[.slice none n cap] w fun e w' => e = .returned (.tuple #[.string sObject, .bool false]) ∧ w.grownBy w' none := by
  have hq : ∀ (w : World) (a : Option Addr) (n c n' c' : Nat), (binOp .eql 24 (.slice a n c) (.slice none n' c')).run Uafg.prog w = .ok (.bool a.isNone) w := fun w a n c n' c' => Lib.run_eql_slice_nil w _ _ a n c n' c' Uafg.underlying24
  have h27 := typeName_hit 47 (.map none) sObject (fun p w h => jpfType_object p _ w h) w
  go_enter Uafg.func14, Uafg.ntmps14
  go_wp2_with (go_at_call 27; refine h27.mono ?_; rintro e w1 ⟨rfl, hg1⟩)
  go_ret2
  exact ⟨rfl, hg1⟩

theorem typeObject_some (ad : Addr) (n cap : Nat) (ss : List (List UInt8)) (w : World) (hn : ss.length = n) (hb : n ≤ 4096) (hl : ∀ x ∈ ss, x.length ≤ maxLen) (h : StrsIn w (some ad) ss) : Calls Uafg.prog 14 #[.slice (some ad) n cap] w fun e w' => e = .returned (.tuple #[.string sObject, .bool false]) ∧ w.grownBy w' none := by
  have hq : ∀ (w : World) (a : Option Addr) (n c n' c' : Nat), (binOp .eql 24 (.slice a n c) (.slice none n' c')).run Uafg.prog w = .ok (.bool a.isNone) w := fun w a n c n' c' => Lib.run_eql_slice_nil w _ _ a n c n' c' Uafg.underlying24
  have h28 := object_any (some ad) n cap ss w hn hb hl h
  clear hn h
  go_enter Uafg.func14, Uafg.ntmps14
  go_wp2_with (go_at_call 28; refine h28.mono ?_; rintro e w1 ⟨rfl, _, hg1⟩)
  refine (typeName_hit 47 (.map (some w.heap.size)) sObject (fun p w h => jpfType_object p _ w h) w1).mono ?_
  rintro e w2 ⟨rfl, hg2⟩
  go_wp2
  go_ret2
  exact ⟨rfl, hg1.andThen hg2 (fun j hj => by cases hj)⟩

theorem typeObject_any (a : Option Addr) (n cap : Nat) (ss : List (List UInt8)) (w : World) (hn : ss.length = n) (hb : n ≤ 4096) (hl : ∀ x ∈ ss, x.length ≤ maxLen) (h : StrsIn w a ss) : Calls Uafg.prog 14 #[.slice a n cap] w fun e w' => e = .returned (.tuple #[.string sObject, .bool false]) ∧ w.grownBy w' none := by
  cases a with
  | none => exact typeObject_nil n cap w
  | some ad => exact typeObject_some ad n cap ss w hn hb hl h

theorem is_number : (sNumber.toList == [110, 117, 109, 98, 101, 114]) = true := by decide +kernel
theorem is_string : (sString.toList == [115, 116, 114, 105, 110, 103]) = true := by decide +kernel
theorem is_array : (sArray.toList == [97, 114, 114, 97, 121]) = true := by decide +kernel
theorem is_object : (sObject.toList == [111, 98, 106, 101, 99, 116]) = true := by decide +kernel
theorem is_null : (sNull.toList == [110, 117, 108, 108]) = true := by decide +kernel
theorem is_boolean : (sBoolean.toList == [98, 111, 111, 108, 101, 97, 110]) = true := by decide +kernel

/-! ### The law -/
set_option maxRecDepth 100000 in
set_option maxHeartbeats 1000000 in
theorem namesLaw_any (f : Nat) (s : ByteArray) (ax : Option Addr) (nx cx : Nat) (fs : List Nat) (a : Option Addr) (n cap : Nat) (ss : List (List UInt8)) (bb : Bool) (w : World)
    (hs : s.size ≤ 140737488355328) (hax : ax = none → nx = 0 ∧ cx = 0) (hnx : fs.length = nx) (hrx : nx ≤ 140737488355328) (hx : FltsIn w ax fs) (ha : a = none → n = 0 ∧ cap = 0) (hn : ss.length = n) (hr : n ≤ 8796093022208) (hl : ∀ x ∈ ss, x.length ≤ maxLen) (h : StrsIn w a ss) :
    Calls Uafg.prog 3 #[.float .f64 f, .string s, .slice ax nx cx, .slice a n cap, .bool bb] w fun e w' => e = .returned (.bool true) ∧ w.grownBy w' none := by
  have h7 := bytesNam_any f s ax nx cx bb a n cap ss w hs hrx hn hr h
  have h8 := strBytes_any a n cap ss w hn hr h
  have h9 := fun hb => cloneFlts_any ax nx cx fs w hax hnx hb hx
  have h10 := fun (w1 : World) (hb : n ≤ 4096) (hg : w.grownBy w1 none) => cloneStrs_any a n cap ss w1 ha hn hb (h.kept hg)
  have HN : Hid (ss.length = n) := hn
  have HX : Hid (fs.length = nx) := hnx
  clear hn h ha hnx hx hax
  go_enter Uafg.func3, Uafg.ntmps3
  go_wp2_with (first
    | (go_at_call 7; refine h7.mono ?_; rintro e w1 ⟨⟨t, rfl⟩, hw1⟩; obtain rfl : w = w1 := hw1.symm)
    | (go_at_call 8; refine h8.mono ?_; rintro e w2 ⟨⟨t2, rfl⟩, hw2⟩; obtain rfl : w = w2 := hw2.symm))
  all_goals first | (go_ret; exact ⟨rfl, World.grownBy.refl _ _⟩) | skip
  have hbx : nx ≤ 4096 := by omega
  have hb : n ≤ 4096 := by omega
  refine (h9 hbx).mono ?_
  rintro e w1 ⟨ax', cx', rfl, hax', hinx, hg1⟩
  have HAX : Hid (ax' = none → nx = 0 ∧ cx' = 0) := hax'
  have h10' := h10 w1 hb hg1
  clear h7 h8 h9 h10 hax'
  go_wp2_with fail
  refine h10'.mono ?_
  rintro e w2 ⟨a', c', rfl, hin, hg2⟩
  have hinx2 := hinx.kept hg2
  clear h10' hinx
  go_wp2_with fail
  refine (typeNumber_any f w2).mono ?_
  rintro e w3 ⟨rfl, hg3⟩
  have hin3 := hin.kept hg3
  have hinx3 := hinx2.kept hg3
  clear hin hinx2
  go_wp2_with fail
  refine (typeString_any s w3).mono ?_
  rintro e w4 ⟨rfl, hg4⟩
  have hin4 := hin3.kept hg4
  have hinx4 := hinx3.kept hg4
  clear hin3 hinx3
  go_wp2_with fail
  refine (typeArray_any ax' nx cx' fs w4 HAX.out HX.out hbx hinx4).mono ?_
  rintro e w5 ⟨rfl, hg5⟩
  have hin5 := hin4.kept hg5
  clear hin4 hinx4
  go_wp2_with fail
  refine (typeObject_any a' n c' ss w5 HN.out hb hl hin5).mono ?_
  rintro e w6 ⟨rfl, hg6⟩
  clear hin5
  go_wp2_with fail
  refine (typeNull_any w6).mono ?_
  rintro e w7 ⟨rfl, hg7⟩
  go_wp2_with fail
  refine (typeBool_any bb w7).mono ?_
  rintro e w8 ⟨rfl, hg8⟩
  have e1 := is_number
  have e2 := is_string
  have e3 := is_array
  have e4 := is_object
  have e5 := is_null
  have e6 := is_boolean
  have hgg : w.grownBy w8 none := by
    exact ((((((hg1.andThen hg2 (fun j hj => by cases hj)).andThen hg3 (fun j hj => by cases hj)).andThen hg4 (fun j hj => by cases hj)).andThen hg5 (fun j hj => by cases hj)).andThen hg6 (fun j hj => by cases hj)).andThen hg7 (fun j hj => by cases hj)).andThen hg8 (fun j hj => by cases hj)
  clear hg1 hg2 hg3 hg4 hg5 hg6 hg7 hg8
  go_wp2
  go_ret
  exact ⟨rfl, hgg⟩

end Go.Proofs.Youafw
