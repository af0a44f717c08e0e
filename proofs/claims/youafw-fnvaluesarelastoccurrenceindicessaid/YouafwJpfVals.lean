/-
  YouafwJpfVals: the walk of jpfValues (30): the values of the map, in whatever order: told by the list of its keys.
-/
import Derived.Test.YouafwJpfKeys
namespace Go.Proofs.Youafw
open Go.RowKit Go.Maps Go.Sort

/-- A float64 in an interface value, by its bits. -/
def boxF (c : Nat) : Value := .iface 22 (.float .f64 c)

/-- WHAT STANDS AT A KEY: the float of bits f x. -/
def ValsAt (D : DataW Unit) (f : List UInt8 → Nat) : Prop := ∀ x, Maps.has D (.string x) = true → ∀ zd, D.atKey (.string x) zd = .lit (.int .u64 (f x))

theorem valsAt_eq {D : DataW Unit} {f : List UInt8 → Nat} (hf : ValsAt D f) {x : List UInt8} {c : Nat} {yd : DataW Unit} {yp : List MemPlace} (hv : fltElem (.iface 22 (.float .f64 c)) = some (yd, yp)) (hat : ∀ zd, D.atKey (.string x) zd = yd) : c = f x := by
  have h1 := hf x (has_true_of_atKey hat) .nil
  rw [hat .nil] at h1
  rw [fltElem_mk] at hv
  simp only [Option.some.injEq, Prod.mk.injEq] at hv
  rw [← hv.1] at h1
  simp only [DataW.lit.injEq, Lit.int.injEq, true_and] at h1
  omega

set_option maxRecDepth 100000 in
set_option maxHeartbeats 1000000 in
theorem jpfValues_any (p b n : Nat) (D : DataW Unit) (f : List UInt8 → Nat) (hf : ValsAt D f) (w : World) (hp : w.cell? ⟨p, 0, none⟩ = some (.iface 47 (.map (some b)))) (hown : w.ownsMap Uafg.prog 9 fltElem b n D) (hmax : Maps.size D ≤ 4096) :
    Calls Uafg.prog 30 #[.slice (some ⟨p, 0, none⟩) 1 1] w fun e w' => ∃ (g cap : Nat) (ss : List (List UInt8)), e = .returned (.tuple #[.iface 46 (.slice (some ⟨g, 0, none⟩) ss.length cap), .nilIface]) ∧ IsKeys D ss ∧ ss.length ≤ Maps.size D ∧
      w'.ownsRow w.heap.size 20 1 (.slice (some ⟨g, 0, none⟩) ss.length cap) ss.length ((ss.map f).map boxF) ∧ w.grownBy w' none := by
  obtain ⟨i0, hi, hz0, hz1, hz2⟩ := info_parts Uafg.info20
  have hbl := hown.lt
  have hta := assert47
  go_enter Uafg.func30, Uafg.ntmps30
  go_wp2_with (first
    | (at_len; refine wpList_len_own _ rfl _ 47 rfl 9 20 Uafg.underlying47 _ b n _ rfl hown ?_)
    | (at_make; refine wpList_make_own _ rfl _ _ 46 rfl w.heap.size 20 i0 .nilIface 1 Uafg.underlying46 hi hz0 hz1 _ _ _ (Maps.size D) rfl rfl rfl (by rw [hz2]; omega) (by unfold maxLen; omega) (Nat.le_refl _) ?_; intro w1 hrow1 hg1)
    | (at_range; refine wpList_range_own _ rfl _ 47 rfl 9 20 law9 Uafg.underlying47 _ b n _ rfl (hown.kept hg1 (by simp)) ?_; intro w0 hrg0 hg0 hs0)
    | go_in)
  go_frame
  clear hta
  go_loopw [5] (fun v wr => ∃ (left : Lit → Bool) (cnt : Nat) (ss : List (List UInt8)), wr.ranges Uafg.prog 9 fltElem b w1.heap.size n D left cnt ∧ ss.length + cnt ≤ Maps.size D ∧
      wr.ownsRow w.heap.size 20 1 v ss.length ((ss.map f).map boxF) ∧ v ≠ .slice none 0 0 ∧ Collected D left ss ∧ Below w.heap.size w wr)
    (fun _ wr => wr.rangeLeft b w1.heap.size)
  case atStart =>
    exact ⟨_, _, [], hrg0, by simp, hrow1.kept hg0 (Or.inr (by simp [Value.ownBlock])), by simp, Collected.start D,
      ((Below.refl _ _).grown hg1 (Nat.le_refl _) (fun j hj => by cases hj)).grown hg0 hg1.size (fun j hj => by cases hj)⟩
  case round =>
    obtain ⟨left, cnt, ss, hrg, hcs, hrow, hnn, hC, hnx⟩ := hrel
    go_wp2_with (first
      | (at_next; refine wpList_next_ranges _ rfl _ rfl 9 law9 fltElem encStr (fun c : Nat => Value.iface 22 (.float .f64 c)) (fun key kl hk => by obtain ⟨x, hx, _⟩ := Maps.keyOf_str Uafg.underlying9 hk; exact ⟨x, hx⟩) (fun v y hv => by obtain ⟨c, rfl, _⟩ := fltElem_inv hv; exact ⟨c, rfl⟩) b w1.heap.size n _ _ _ rfl hrg ?_ ?_)
      | go_in)
    · -- NOTHING IS LEFT
      intro hc0 hl0
      rcases hrow.2 with ⟨hnil, _⟩ | ⟨g, cap, cur, rfl, hbase, hb, h1, h2, h3, h4⟩
      · exact absurd hnil hnn
      go_wp2
      go_ret2
      exact ⟨g, cap, ss, rfl, ⟨hC.1, fun x => by rw [hC.2 x, hl0]; simp⟩, by omega, hrow, grown_of_below hnx⟩
    · -- AN ENTRY HAS COME: its element goes to the slice's end
      intro x c kl yd yp w2 cnt2 hkey hlk hv hat hrg2 hlt hg2 hs2 hen
      obtain ⟨x', ex, rfl, _⟩ := Maps.keyOf_str Uafg.underlying9 hkey
      obtain rfl : x = x' := encStr_inj ex
      have hcf := valsAt_eq hf hv hat
      have HCF : Hid (c = f x) := hcf
      have hrow2 := hrow.kept hg2 (Or.inr (row_ne_iter hrow hrg).symm)
      clear hs2 hcf
      go_wp2_with (first
        | (at_builtin; refine wpList_append_own _ rfl _ _ 46 rfl w.heap.size 20 i0 .nilIface 1 16 Uafg.underlying46 hi hz0 hz1 hz2 rfl (by decide) _ _ _ rfl (hrow2.alloc _) ⟨w2.heap.size, 0, none⟩ 1 1 [boxF c] rfl rfl (cell_one_new _ _ _) (by simp [Value.oneCell', boxF]) (by unfold maxLen at *; omega) (by omega) (by have := hnx.size; have := hg2.size; simp; omega) ?_; intro v' w3 hown' hg3 hnil3; go_frame)
        | go_in)
      have hrg3 := (hrg2.alloc _).kept hg3 (row_ne_low hrow2 hbl) (row_ne_iter hrow2 hrg2)
      go_roundw
      case rel =>
        refine ⟨_, cnt2, ss ++ [x], hrg3, by simp; omega, by rw [HCF.out] at hown'; simpa using hown', fun hv' => by have := (hnil3.1 hv').2; omega, hC.step hlk hat, ?_⟩
        exact ((hnx.grown hg2 hnx.size (fun j hj => by cases hj; exact hg1.size)).alloc (by have := hnx.size; have := hg2.size; omega) _).grown hg3 (by have := hnx.size; have := hg2.size; simp; omega) (fun j hj => (hrow2.lt j hj).1)
      case measure => rw [hrg3.left_eq, hrg.left_eq]; exact hlt

end Go.Proofs.Youafw
