/-
  YouafwTypeName: jpfType (31) at a value of no JSON kind; zzTypeName (27).
-/
import Derived.Test.YouafwJpfType
import Derived.Maps.Range
namespace Go.Proofs.Youafw
open Go.RowKit

set_option maxHeartbeats 400000 in
theorem jpfType_alien (t : TypeId) (h1 : t ≠ 22) (h2 : t ≠ 9) (h3 : t ≠ 46) (h4 : t ≠ 47) (heq : ∀ (v : Value) (b : Bool) (w : World), (binOp .eql 20 (.iface t v) (.iface 4 (.bool b))).run Uafg.prog w = .ok (.bool false) w)
    (p : Nat) (v : Value) (w : World) (hc : w.cell? ⟨p, 0, none⟩ = some (.iface t v)) :
    Calls Uafg.prog 31 #[.slice (some ⟨p, 0, none⟩) 1 1] w fun e w' => e = .returned (.tuple #[.nilIface, .iface 57 (.pointer (some ⟨w.heap.size, 0, none⟩))]) ∧ w.grownBy w' none := by
  have a1 := no22 t h1
  have a2 := no9 t h2
  have a3 := no46 t h3
  have a4 := no47 t h4
  have a5 := eq_some_nil t
  clear h1 h2 h3 h4
  go_enter Uafg.func31, Uafg.ntmps31
  go_wp2
  go_ret2
  exact ⟨rfl, World.grownBy_alloc _ _ _⟩

theorem neq_nil_nil (w : World) : (binOp .neq 50 .nilIface .nilIface).run Uafg.prog w = .ok (.bool false) w := by kernel_rfl
theorem neq_some_nil (t : TypeId) (v : Value) (w : World) : (binOp .neq 50 (.iface t v) .nilIface).run Uafg.prog w = .ok (.bool true) w := by kernel_rfl
theorem take9 (v : Value) (w : World) : (Instr.typeAssert (.iface 9 v) 20 9 false).run Uafg.prog w = .ok v w := by
  simp [Instr.typeAssert, run_underlying Uafg.underlying9, Result.andThen]

set_option maxHeartbeats 400000 in
theorem typeName_hit (t : TypeId) (v : Value) (s : ByteArray) (h31 : ∀ (p : Nat) (w : World), w.cell? ⟨p, 0, none⟩ = some (.iface t v) → Calls Uafg.prog 31 #[.slice (some ⟨p, 0, none⟩) 1 1] w fun e w' => e = .returned (.tuple #[.iface 9 (.string s), .nilIface]) ∧ w' = w) (w : World) :
    Calls Uafg.prog 27 #[.iface t v] w fun e w' => e = .returned (.tuple #[.string s, .bool false]) ∧ w.grownBy w' none := by
  have a1 := neq_nil_nil
  have a2 := take9
  have H31 := h31 w.heap.size (w.alloc (.cells #[.iface t v] 20)) (by simp)
  clear h31
  go_enter Uafg.func27, Uafg.ntmps27
  go_wp2_with fail
  refine H31.mono ?_
  rintro e w1 ⟨rfl, hw1⟩
  subst hw1
  go_wp2
  go_ret2
  exact ⟨rfl, World.grownBy_alloc _ _ _⟩

set_option maxHeartbeats 400000 in
theorem typeName_null (w : World) : Calls Uafg.prog 27 #[.nilIface] w fun e w' => e = .returned (.tuple #[.string sNull, .bool false]) ∧ w.grownBy w' none := by
  have a1 := neq_nil_nil
  have a2 := take9
  have H31 := jpfType_null w.heap.size (w.alloc (.cells #[.nilIface] 20)) (by simp)
  go_enter Uafg.func27, Uafg.ntmps27
  go_wp2_with fail
  refine H31.mono ?_
  rintro e w1 ⟨rfl, hw1⟩
  subst hw1
  go_wp2
  go_ret2
  exact ⟨rfl, World.grownBy_alloc _ _ _⟩

set_option maxHeartbeats 400000 in
theorem typeName_alien (t : TypeId) (h1 : t ≠ 22) (h2 : t ≠ 9) (h3 : t ≠ 46) (h4 : t ≠ 47) (heq : ∀ (v : Value) (b : Bool) (w : World), (binOp .eql 20 (.iface t v) (.iface 4 (.bool b))).run Uafg.prog w = .ok (.bool false) w)
    (v : Value) (w : World) : Calls Uafg.prog 27 #[.iface t v] w fun e w' => e = .returned (.tuple #[.string ⟨#[]⟩, .bool true]) ∧ w.grownBy w' none := by
  have a1 := neq_some_nil
  have H31 := jpfType_alien t h1 h2 h3 h4 heq w.heap.size v (w.alloc (.cells #[.iface t v] 20)) (by simp)
  clear h1 h2 h3 h4 heq
  go_enter Uafg.func27, Uafg.ntmps27
  go_wp2_with fail
  refine H31.mono ?_
  rintro e w1 ⟨rfl, hg1⟩
  go_wp2
  go_ret2
  exact ⟨rfl, (World.grownBy_alloc w _ none).andThen hg1 (fun j hj => by cases hj)⟩

end Go.Proofs.Youafw
