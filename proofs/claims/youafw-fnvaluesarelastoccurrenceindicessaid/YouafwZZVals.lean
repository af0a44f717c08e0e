/-
  YouafwZZVals: the walk of ZZValues (25): a slice of the call's own that holds the last places of the keys, in whatever order.
-/
import Derived.Test.YouafwZZKeys
import Derived.Test.YouafwLast
import Derived.Test.YouafwFloat
namespace Go.Proofs.Youafw
open Go.RowKit Go.Maps Go.Sort

theorem Uafg.info3 : (Uafg.prog.info? 3).map (fun i => (i.zero, i.size, i.bytes)) = some (some (.int .i64 0), 1, 8) := by kernel_rfl

theorem assert22 (c : Nat) (w : World) : (Instr.typeAssert (boxF c) 20 22 false).run Uafg.prog w = .ok (.float .f64 c) w := by
  simp [boxF, Instr.typeAssert, run_underlying Uafg.underlying22, Result.andThen]

theorem conv_back (i : Nat) (h : i < 4096) (w : World) : (convert 22 3 (.float .f64 (floatOfInt .f64 (i : Int)))).run Uafg.prog w = .ok (.int .i64 (i : Int)) w :=
  run_convert_float_int w 22 3 .f64 .i64 _ _ (by rw [Uafg.underlying22]; rfl) Uafg.underlying3 (float_back h)

set_option maxRecDepth 100000 in
set_option maxHeartbeats 1000000 in
theorem zzValues_any (a : Option Addr) (n cap : Nat) (ss : List (List UInt8)) (w : World) (hn : ss.length = n) (hb : n ≤ 4096) (hl : ∀ x ∈ ss, x.length ≤ maxLen) (h : StrsIn w a ss) :
    Calls Uafg.prog 25 #[.slice a n cap] w fun e w' => ∃ (g m : Nat), e = .returned (.slice (some ⟨g, 0, none⟩) m m) ∧ m ≤ 4096 ∧ ∃ (xs : List (List UInt8)), xs.length = m ∧ IsKeys (objTo ss n) xs ∧
      w'.ownsRow w.heap.size 3 1 (.slice (some ⟨g, 0, none⟩) m m) m ((xs.map fun x => (lastTo ss x n : Int)).map (Value.int .i64)) ∧ w.grownBy w' none := by
  have hta := assert46
  have hta22 := assert22
  obtain ⟨i0, hi, hz0, hz1, hz2⟩ := info_parts Uafg.info3
  have hcall := object_any a n cap ss w hn hb hl h
  have HN : Hid (ss.length = n) := hn
  have HV : Hid (ValsAt (objTo ss n) (fun x => floatOfInt .f64 (lastTo ss x n))) := valsAt_objTo ss n (Nat.le_of_eq hn.symm)
  clear hn
  go_enter Uafg.func25, Uafg.ntmps25
  go_wp2_with (go_at_call 28; refine hcall.mono ?_; rintro e w1 ⟨rfl, hown1, hg1⟩)
  refine (jpfValues_any w1.heap.size w.heap.size n (objTo ss n) _ HV.out _ (by simp) (hown1.alloc _) (Nat.le_trans hown1.size_le hb)).mono ?_
  rintro e w2 ⟨g, cap2, xs, rfl, hperm, hks, hrow2, hg2⟩
  have hkl : xs.length ≤ 4096 := by
    exact Nat.le_trans hks (Nat.le_trans hown1.size_le hb)
  clear hks
  obtain ⟨m, hm⟩ : ∃ m, xs.length = m := ⟨_, rfl⟩
  rw [hm] at hrow2 hkl ⊢
  have HM : Hid (xs.length = m) := hm
  clear hm
  -- every key of the map stands in the list: its last place is below n
  have hbelow : ∀ (k : Nat) (x : List UInt8), xs[k]? = some x → lastTo ss x n < 4096 := by
    intro k x hx
    have hmem : x ∈ xs := List.mem_of_getElem? hx
    have h1 := (has_objTo ss x n (Nat.le_of_eq HN.out.symm)).1 ((hperm.2 x).1 hmem)
    exact Nat.lt_of_lt_of_le (lastTo_spec ss x n (Nat.le_of_eq HN.out.symm) h1).1 hb
  have HBL : Hid (∀ (k : Nat) (x : List UInt8), xs[k]? = some x → lastTo ss x n < 4096) := hbelow
  clear hbelow
  go_wp2_with (first
    | (at_make; refine wpList_make_full _ rfl _ _ 42 rfl w.heap.size 3 i0 (.int .i64 0) 1 Uafg.underlying42 hi hz0 hz1 _ _ _ _ m rfl rfl rfl rfl (by rw [hz2]; omega) (by unfold maxLen; omega) (by have := hg1.size; have := hg2.size; simp at this; omega) ?_; intro w3 hrow3 hg3)
    | go_in)
  obtain ⟨B, hB⟩ : ∃ B, w2.heap.size = B := ⟨_, rfl⟩
  have hrow3' := made_row (enc := Value.int .i64) (z := (0 : Int)) hrow3 rfl
  clear hrow3
  rw [hB] at hrow3' ⊢
  have HB : Hid (w2.heap.size = B) := hB
  clear hB
  obtain ⟨vs, hvs⟩ : ∃ vs, vs = xs.map fun x => (lastTo ss x n : Int) := ⟨_, rfl⟩
  have HVS : Hid (vs = xs.map fun x => (lastTo ss x n : Int)) := hvs
  clear hvs
  go_loopw [7] (fun i wr => ∃ (k : Nat) (L : List Int), k ≤ m ∧ i = .int .i64 k ∧ L.take k = vs.take k ∧ wr.ownsRow w.heap.size 3 1 (.slice (some ⟨B, 0, none⟩) m m) m (L.map (Value.int .i64)) ∧ w2.grownBy wr none) (fun i _ => m - (intOf i).toNat)
  case atStart => exact ⟨0, List.replicate m 0, Nat.zero_le _, rfl, rfl, hrow3', hg3⟩
  case round =>
    clear hrow3' hg3
    obtain ⟨k, L, hk, rfl, htk, hrow, hgw⟩ := hrel
    have hL : L.length = m := by simpa using hrow.1
    have HL : Hid (L.length = m) := hL
    clear hL
    by_cases hlt : k < m
    · obtain ⟨x, hx⟩ : ∃ x, xs[k]? = some x := ⟨_, List.getElem?_eq_getElem (by rw [HM.out]; exact hlt)⟩
      obtain ⟨q, hq⟩ : ∃ q, lastTo ss x n = q := ⟨_, rfl⟩
      have hcx : wr.cell? ⟨g, k, none⟩ = some (boxF (floatOfInt .f64 (q : Int))) := by
        rw [← hq]
        exact hgw.cell (row_cell hrow2 (by simp [hx])) (by simp)
      have hcv := conv_back q (by rw [← hq]; exact HBL.out k x hx)
      have hv : vs[k]? = some (q : Int) := by rw [HVS.out]; simp [hx, hq]
      have HVK : Hid (vs[k]? = some (q : Int)) := hv
      obtain ⟨z, hz⟩ : ∃ z, L[k]? = some z := ⟨_, List.getElem?_eq_getElem (by rw [HL.out]; exact hlt)⟩
      have hcz : wr.cell? ⟨B, k, none⟩ = some (Value.int .i64 z) := row_cell hrow hz
      have hfz := hrow.frozenAt k
      clear hx hz hv hq
      go_wp2
      go_roundw
      case rel =>
        obtain ⟨s1, s2⟩ := hrow.stored k (Value.int .i64 (q : Int))
        rw [← List.map_set] at s1
        exact ⟨k + 1, L.set k (q : Int), by omega, by go_num, take_set_succ (by rw [HL.out]; exact hlt) htk HVK.out, s1, hgw.andThen s2 (fun j hj => by cases hj; exact .inl (Nat.le_of_eq HB.out))⟩
      case measure => simp [intOf]; omega
    · have hLk : L = vs := by
        have hvl : vs.length = m := by rw [HVS.out]; simpa using HM.out
        rw [List.take_of_length_le (by rw [HL.out]; omega), List.take_of_length_le (by rw [hvl]; omega)] at htk
        exact htk
      rw [hLk, HVS.out] at hrow
      clear hLk htk
      go_wp2
      go_ret
      refine ⟨B, m, rfl, hkl, xs, HM.out, hperm, hrow, ?_⟩
      exact (hg1.andThen ((World.grownBy_alloc w1 _ none).andThen hg2 (fun j hj => by cases hj)) (fun j hj => by cases hj)).andThen hgw (fun j hj => by cases hj)

end Go.Proofs.Youafw
