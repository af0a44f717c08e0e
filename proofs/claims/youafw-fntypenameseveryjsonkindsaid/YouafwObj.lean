/-
  YouafwObj: the walk of zzObject (28): a new map that reads as {keys[i]: i}, the later place winning. The elements are interfaces that hold a float64: read by its bits.
-/
import Derived.Test.YouafwClone
import Derived.Maps.RangeWalk
namespace Go.Proofs.Youafw
open Go.RowKit Go.Maps

/-- HOW AN ELEMENT OF THE OBJECT READS: an interface value that holds a float64: its bits, as a number. -/
def fltElem (v : Value) : Option (DataW Unit × List MemPlace) :=
  match v with
  | .iface t (.float .f64 bits) => if t = 22 then some (.lit (.int .u64 bits), []) else none
  | _ => none

theorem fltElem_mk (bits : Nat) : fltElem (.iface 22 (.float .f64 bits)) = some (.lit (.int .u64 bits), []) := rfl

theorem fltElem_inv {v : Value} {y : DataW Unit × List MemPlace} (h : fltElem v = some y) : ∃ bits : Nat, v = .iface 22 (.float .f64 bits) ∧ y = (.lit (.int .u64 bits), []) := by
  unfold fltElem at h
  split at h
  · split at h
    · rename_i ht
      subst ht
      cases h
      exact ⟨_, rfl, rfl⟩
    · cases h
  · cases h

/-- THE OBJECT behind k rounds. -/
def objTo (ss : List (List UInt8)) : Nat → DataW Unit
  | 0 => .map []
  | k + 1 => (objTo ss k).put (.string (ss.getD k [])) (.lit (.int .u64 (floatOfInt .f64 k)))

theorem law9 : Keyed Uafg.prog 9 := string_keyed Uafg.underlying9

theorem getD_mem (ss : List (List UInt8)) {k : Nat} (h : k < ss.length) : ss.getD k [] ∈ ss := by
  have e : ss.getD k [] = ss[k] := by simp [h]
  rw [e]
  exact List.getElem_mem _

theorem run_makeMap_hint (n : Int) (w : World) : (Instr.makeMap 47 (some (.int .i64 n))).run Uafg.prog w = .ok (.map (some w.heap.size)) (w.alloc (.map #[] 0)) := by
  unfold Instr.makeMap
  simp only [Sem.run_bind, run_underlying Uafg.underlying47, Result.andThen_ok, asInt, asIntOf]
  rfl

theorem keyOf_enc {x : List UInt8} (h : x.length ≤ maxLen) : keyOf Uafg.prog 9 (encStr x) = some (.string x) := by
  have := WideMaps.keyOf_string_mk (P := Uafg.prog) Uafg.underlying9 (s := ⟨x.toArray⟩) (by simpa [ByteArray.size] using h)
  simpa using this

set_option maxHeartbeats 400000 in
theorem object_some (b off n cap : Nat) (ss : List (List UInt8)) (w : World) (hb : n ≤ 4096) (hl : ∀ x ∈ ss, x.length ≤ maxLen) (hn : Hid (ss.length = n)) (hc : ∀ j, j < n → w.cell? ⟨b, off + j, none⟩ = some (encStr (ss.getD j []))) :
    Calls Uafg.prog 28 #[.slice (some ⟨b, off, none⟩) n cap] w fun e w' => e = .returned (.map (some w.heap.size)) ∧ w'.ownsMap Uafg.prog 9 fltElem w.heap.size n (objTo ss n) ∧ w.grownBy w' none := by
  have hmm := run_makeMap_hint
  go_enter Uafg.func28, Uafg.ntmps28
  go_wp2
  clear hmm
  go_loopw [4] (fun i wr => ∃ k : Nat, k ≤ n ∧ i = .int .i64 k ∧ wr.ownsMap Uafg.prog 9 fltElem w.heap.size k (objTo ss k) ∧ w.grownBy wr none) (fun i _ => n - (intOf i).toNat)
  case atStart => exact ⟨0, Nat.zero_le _, rfl, World.ownsMap_made _ _ _ _, World.grownBy_alloc _ _ _⟩
  case round =>
    obtain ⟨k, hk, rfl, hown, hgw⟩ := hrel
    by_cases hlt : k < n
    · have hkl : k < ss.length := by rw [hn.out]; exact hlt
      obtain ⟨x, hx⟩ : ∃ x, x = ss.getD k [] := ⟨_, rfl⟩
      have hck : wr.cell? ⟨b, off + k, none⟩ = some (encStr x) := by rw [hx]; exact hgw.cell (hc k hlt) (by simp)
      have hkey : keyOf Uafg.prog 9 (encStr x) = some (.string x) := keyOf_enc (hl x (by rw [hx]; exact getD_mem ss hkl))
      have HX : Hid (x = ss.getD k []) := hx
      clear hx hkl
      go_wp2_with (at_mapUpdate; refine wpList_mapUpdate_own _ rfl _ _ _ 47 rfl 9 20 law9 Uafg.underlying47 fltElem w.heap.size k (objTo ss k) rfl hown (by unfold maxLen; omega) _ _ (.string x) rfl rfl hkey _ [] (fltElem_mk _) ?_; intro w1 hown1 hg1)
      go_roundw
      case rel =>
        refine ⟨k + 1, by omega, by go_num, ?_, hgw.andThen hg1 (fun j hj => by cases hj; exact .inl (Nat.le_refl _))⟩
        rw [objTo, ← HX.out]
        exact hown1
      case measure => simp [intOf]; omega
    · have e1 : k = n := by omega
      subst e1
      go_wp2
      go_ret
      exact ⟨rfl, hown, hgw⟩

theorem object_none (a : Option Addr) (cap : Nat) (w : World) :
    Calls Uafg.prog 28 #[.slice a 0 cap] w fun e w' => e = .returned (.map (some w.heap.size)) ∧ w'.ownsMap Uafg.prog 9 fltElem w.heap.size 0 (objTo [] 0) ∧ w.grownBy w' none := by
  have hmm := run_makeMap_hint
  go_enter Uafg.func28, Uafg.ntmps28
  go_wp2
  refine wp_loop_rounds 1 ?_
  rw [rounds_succ]
  go_wp2
  go_ret
  exact ⟨rfl, World.ownsMap_made _ _ _ _, World.grownBy_alloc _ _ _⟩

theorem object_any (a : Option Addr) (n cap : Nat) (ss : List (List UInt8)) (w : World) (hn : ss.length = n) (hb : n ≤ 4096) (hl : ∀ x ∈ ss, x.length ≤ maxLen) (h : StrsIn w a ss) :
    Calls Uafg.prog 28 #[.slice a n cap] w fun e w' => e = .returned (.map (some w.heap.size)) ∧ w'.ownsMap Uafg.prog 9 fltElem w.heap.size n (objTo ss n) ∧ w.grownBy w' none := by
  subst hn
  rcases h with rfl | ⟨b, off, rfl, hc⟩
  · exact object_none a cap w
  · exact object_some b off _ cap ss w hb hl rfl hc

end Go.Proofs.Youafw
