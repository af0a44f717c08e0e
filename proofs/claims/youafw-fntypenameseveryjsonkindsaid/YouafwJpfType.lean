/-
  YouafwJpfType: the walks of jpfType (31), by the dynamic type of its argument.
-/
import Derived.Test.YouafwProg
import Derived.WalkKit
import Derived.WalkSpells
import Derived.WalkLawsBesides
import Derived.Sort.EncStr
namespace Go.Proofs.Youafw
open Go.RowKit

/-! ### 'v, ok := arg.(T)' -/
theorem ok22 (v : Value) (w : World) : (Instr.typeAssert (.iface 22 v) 20 22 true).run Uafg.prog w = .ok (.tuple #[v, .bool true]) w := by
  simp [Instr.typeAssert, run_underlying Uafg.underlying22, Result.andThen]
theorem ok9 (v : Value) (w : World) : (Instr.typeAssert (.iface 9 v) 20 9 true).run Uafg.prog w = .ok (.tuple #[v, .bool true]) w := by
  simp [Instr.typeAssert, run_underlying Uafg.underlying9, Result.andThen]
theorem ok46 (v : Value) (w : World) : (Instr.typeAssert (.iface 46 v) 20 46 true).run Uafg.prog w = .ok (.tuple #[v, .bool true]) w := by
  simp [Instr.typeAssert, run_underlying Uafg.underlying46, Result.andThen]
theorem ok47 (v : Value) (w : World) : (Instr.typeAssert (.iface 47 v) 20 47 true).run Uafg.prog w = .ok (.tuple #[v, .bool true]) w := by
  simp [Instr.typeAssert, run_underlying Uafg.underlying47, Result.andThen]
theorem zero22 (w : World) : (zeroValue 22).run Uafg.prog w = .ok (.float .f64 0) w := by kernel_rfl
theorem zero9 (w : World) : (zeroValue 9).run Uafg.prog w = .ok (.string ⟨#[]⟩) w := by kernel_rfl
theorem zero46 (w : World) : (zeroValue 46).run Uafg.prog w = .ok (.slice none 0 0) w := by kernel_rfl
theorem zero47 (w : World) : (zeroValue 47).run Uafg.prog w = .ok (.map none) w := by kernel_rfl
theorem no22 (t : TypeId) (h : t ≠ 22) (v : Value) (w : World) : (Instr.typeAssert (.iface t v) 20 22 true).run Uafg.prog w = .ok (.tuple #[.float .f64 0, .bool false]) w := by
  simp [Instr.typeAssert, run_underlying Uafg.underlying22, Result.andThen, h]
theorem no9 (t : TypeId) (h : t ≠ 9) (v : Value) (w : World) : (Instr.typeAssert (.iface t v) 20 9 true).run Uafg.prog w = .ok (.tuple #[.string ⟨#[]⟩, .bool false]) w := by
  simp [Instr.typeAssert, run_underlying Uafg.underlying9, Result.andThen, h]
theorem no46 (t : TypeId) (h : t ≠ 46) (v : Value) (w : World) : (Instr.typeAssert (.iface t v) 20 46 true).run Uafg.prog w = .ok (.tuple #[.slice none 0 0, .bool false]) w := by
  simp [Instr.typeAssert, run_underlying Uafg.underlying46, Result.andThen, h]
theorem no47 (t : TypeId) (h : t ≠ 47) (v : Value) (w : World) : (Instr.typeAssert (.iface t v) 20 47 true).run Uafg.prog w = .ok (.tuple #[.map none, .bool false]) w := by
  simp [Instr.typeAssert, run_underlying Uafg.underlying47, Result.andThen, h]
theorem nil22 (w : World) : (Instr.typeAssert .nilIface 20 22 true).run Uafg.prog w = .ok (.tuple #[.float .f64 0, .bool false]) w := by
  simp [Instr.typeAssert, run_underlying Uafg.underlying22, Result.andThen]
theorem nil9 (w : World) : (Instr.typeAssert .nilIface 20 9 true).run Uafg.prog w = .ok (.tuple #[.string ⟨#[]⟩, .bool false]) w := by
  simp [Instr.typeAssert, run_underlying Uafg.underlying9, Result.andThen]
theorem nil46 (w : World) : (Instr.typeAssert .nilIface 20 46 true).run Uafg.prog w = .ok (.tuple #[.slice none 0 0, .bool false]) w := by
  simp [Instr.typeAssert, run_underlying Uafg.underlying46, Result.andThen]
theorem nil47 (w : World) : (Instr.typeAssert .nilIface 20 47 true).run Uafg.prog w = .ok (.tuple #[.map none, .bool false]) w := by
  simp [Instr.typeAssert, run_underlying Uafg.underlying47, Result.andThen]

/-! ### 'arg == nil', 'arg == true', 'arg == false' -/
theorem eq_nil_nil (w : World) : (binOp .eql 20 .nilIface .nilIface).run Uafg.prog w = .ok (.bool true) w := by kernel_rfl
theorem eq_some_nil (t : TypeId) (v : Value) (w : World) : (binOp .eql 20 (.iface t v) .nilIface).run Uafg.prog w = .ok (.bool false) w := by kernel_rfl
theorem eq3 (v : Value) (b : Bool) (w : World) : (binOp .eql 20 (.iface 3 v) (.iface 4 (.bool b))).run Uafg.prog w = .ok (.bool false) w := by kernel_rfl
theorem eq36 (v : Value) (b : Bool) (w : World) : (binOp .eql 20 (.iface 36 v) (.iface 4 (.bool b))).run Uafg.prog w = .ok (.bool false) w := by kernel_rfl
theorem eq24 (v : Value) (b : Bool) (w : World) : (binOp .eql 20 (.iface 24 v) (.iface 4 (.bool b))).run Uafg.prog w = .ok (.bool false) w := by kernel_rfl
theorem eq_bool (a b : Bool) (w : World) : (binOp .eql 20 (.iface 4 (.bool a)) (.iface 4 (.bool b))).run Uafg.prog w = .ok (.bool (a == b)) w := by kernel_rfl

/-! ### The walks -/
def sNumber : ByteArray := ⟨#[110, 117, 109, 98, 101, 114]⟩
def sString : ByteArray := ⟨#[115, 116, 114, 105, 110, 103]⟩
def sArray : ByteArray := ⟨#[97, 114, 114, 97, 121]⟩
def sObject : ByteArray := ⟨#[111, 98, 106, 101, 99, 116]⟩
def sNull : ByteArray := ⟨#[110, 117, 108, 108]⟩
def sBoolean : ByteArray := ⟨#[98, 111, 111, 108, 101, 97, 110]⟩

set_option maxHeartbeats 400000 in
theorem jpfType_number (p : Nat) (v : Value) (w : World) (hc : w.cell? ⟨p, 0, none⟩ = some (.iface 22 v)) :
    Calls Uafg.prog 31 #[.slice (some ⟨p, 0, none⟩) 1 1] w fun e w' => e = .returned (.tuple #[.iface 9 (.string sNumber), .nilIface]) ∧ w' = w := by
  have a1 := ok22
  go_enter Uafg.func31, Uafg.ntmps31
  go_wp2
  go_ret2
  exact ⟨rfl, rfl⟩

set_option maxHeartbeats 400000 in
theorem jpfType_string (p : Nat) (v : Value) (w : World) (hc : w.cell? ⟨p, 0, none⟩ = some (.iface 9 v)) :
    Calls Uafg.prog 31 #[.slice (some ⟨p, 0, none⟩) 1 1] w fun e w' => e = .returned (.tuple #[.iface 9 (.string sString), .nilIface]) ∧ w' = w := by
  have a1 := no22 9 (by decide)
  have a2 := ok9
  go_enter Uafg.func31, Uafg.ntmps31
  go_wp2
  go_ret2
  exact ⟨rfl, rfl⟩

set_option maxHeartbeats 400000 in
theorem jpfType_array (p : Nat) (v : Value) (w : World) (hc : w.cell? ⟨p, 0, none⟩ = some (.iface 46 v)) :
    Calls Uafg.prog 31 #[.slice (some ⟨p, 0, none⟩) 1 1] w fun e w' => e = .returned (.tuple #[.iface 9 (.string sArray), .nilIface]) ∧ w' = w := by
  have a1 := no22 46 (by decide)
  have a2 := no9 46 (by decide)
  have a3 := ok46
  go_enter Uafg.func31, Uafg.ntmps31
  go_wp2
  go_ret2
  exact ⟨rfl, rfl⟩

set_option maxHeartbeats 400000 in
theorem jpfType_object (p : Nat) (v : Value) (w : World) (hc : w.cell? ⟨p, 0, none⟩ = some (.iface 47 v)) :
    Calls Uafg.prog 31 #[.slice (some ⟨p, 0, none⟩) 1 1] w fun e w' => e = .returned (.tuple #[.iface 9 (.string sObject), .nilIface]) ∧ w' = w := by
  have a1 := no22 47 (by decide)
  have a2 := no9 47 (by decide)
  have a3 := no46 47 (by decide)
  have a4 := ok47
  go_enter Uafg.func31, Uafg.ntmps31
  go_wp2
  go_ret2
  exact ⟨rfl, rfl⟩

set_option maxHeartbeats 400000 in
theorem jpfType_null (p : Nat) (w : World) (hc : w.cell? ⟨p, 0, none⟩ = some .nilIface) :
    Calls Uafg.prog 31 #[.slice (some ⟨p, 0, none⟩) 1 1] w fun e w' => e = .returned (.tuple #[.iface 9 (.string sNull), .nilIface]) ∧ w' = w := by
  have a1 := nil22
  have a2 := nil9
  have a3 := nil46
  have a4 := nil47
  have a5 := eq_nil_nil
  go_enter Uafg.func31, Uafg.ntmps31
  go_wp2
  go_ret2
  exact ⟨rfl, rfl⟩

set_option maxHeartbeats 400000 in
theorem jpfType_boolean (p : Nat) (b : Bool) (w : World) (hc : w.cell? ⟨p, 0, none⟩ = some (.iface 4 (.bool b))) :
    Calls Uafg.prog 31 #[.slice (some ⟨p, 0, none⟩) 1 1] w fun e w' => e = .returned (.tuple #[.iface 9 (.string sBoolean), .nilIface]) ∧ w' = w := by
  have a1 := no22 4 (by decide)
  have a2 := no9 4 (by decide)
  have a3 := no46 4 (by decide)
  have a4 := no47 4 (by decide)
  have a5 := eq_some_nil 4
  have a6 := eq_bool
  cases b
  all_goals
    go_enter Uafg.func31, Uafg.ntmps31
    go_wp2
    go_ret2
    exact ⟨rfl, rfl⟩

end Go.Proofs.Youafw
