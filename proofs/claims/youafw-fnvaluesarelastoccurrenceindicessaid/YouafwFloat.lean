/-
  YouafwFloat: int(float64(i)) is i, for every place i of a list of at most 4096: by the kernel's own reckoning.
-/
import Derived.WalkKit
import Derived.WalkLawsBesides
namespace Go.Proofs.Youafw

set_option maxRecDepth 100000 in
theorem back_all : (List.range 4096).all (fun i => decide (floatToIntVal .f64 (floatOfInt .f64 (i : Int)) .i64 = some (i : Int))) = true := by decide +kernel

theorem float_back {i : Nat} (h : i < 4096) : floatToIntVal .f64 (floatOfInt .f64 (i : Int)) .i64 = some (i : Int) := by
  have := List.all_eq_true.1 back_all i (List.mem_range.2 h)
  exact of_decide_eq_true this

end Go.Proofs.Youafw
