/-
  YouafwZZKeys: the walk of ZZKeys (23): a slice of the call's own that holds the object's keys, in whatever order.
-/
import Derived.Test.YouafwJpfKeys
import Derived.Test.YouafwSortS
namespace Go.Proofs.Youafw
open Go.RowKit Go.Maps Go.Sort

theorem assert46 (v : Value) (w : World) : (Instr.typeAssert (.iface 46 v) 20 46 false).run Uafg.prog w = .ok v w := by
  simp [Instr.typeAssert, run_underlying Uafg.underlying46, Result.andThen]
theorem assert9 (x : List UInt8) (w : World) : (Instr.typeAssert (boxS x) 20 9 false).run Uafg.prog w = .ok (encStr x) w := by
  simp [boxS, Instr.typeAssert, run_underlying Uafg.underlying9, Result.andThen]

/-- A row that 'make' has just laid owns so many zero values. -/
theorem made_row {α : Type} {enc : α → Value} {z : α} {w : World} {base e : Nat} {v : Value} {n : Nat} (h : w.ownsRow base e 1 v n (madeCells (enc z).cells (n * 1)).toList) (hz : (enc z).cells = #[enc z]) : w.ownsRow base e 1 v n ((List.replicate n z).map enc) := by
  rw [hz, Nat.mul_one, toList_madeCells_one] at h
  rw [List.map_replicate]
  exact h

theorem take_set_succ {α : Type} {L ks : List α} {k : Nat} {x : α} (hl : k < L.length) (h : L.take k = ks.take k) (hx : ks[k]? = some x) : (L.set k x).take (k + 1) = ks.take (k + 1) := by
  obtain ⟨hk, rfl⟩ := List.getElem?_eq_some_iff.1 hx
  rw [List.take_succ_eq_append_getElem (by simpa using hl), List.take_succ_eq_append_getElem hk, ← h, List.take_set_of_le (Nat.le_refl _)]
  simp

set_option maxRecDepth 100000 in
set_option maxHeartbeats 1000000 in
theorem zzKeys_any (a : Option Addr) (n cap : Nat) (ss : List (List UInt8)) (w : World) (hn : ss.length = n) (hb : n ≤ 4096) (hl : ∀ x ∈ ss, x.length ≤ maxLen) (h : StrsIn w a ss) :
    Calls Uafg.prog 23 #[.slice a n cap] w fun e w' => ∃ (g m : Nat), e = .returned (.slice (some ⟨g, 0, none⟩) m m) ∧ m ≤ 4096 ∧ ∃ (ks : List (List UInt8)), ks.length = m ∧ IsKeys (objTo ss n) ks ∧
      w'.ownsRow w.heap.size 9 1 (.slice (some ⟨g, 0, none⟩) m m) m (ks.map encStr) ∧ w.grownBy w' none := by
  have hta := assert46
  have hta9 := assert9
  obtain ⟨i0, hi, hz0, hz1, hz2⟩ := info_parts Uafg.info9
  have hcall := object_any a n cap ss w hn hb hl h
  have HN : Hid (ss.length = n) := hn
  clear hn
  go_enter Uafg.func23, Uafg.ntmps23
  go_wp2_with (go_at_call 28; refine hcall.mono ?_; rintro e w1 ⟨rfl, hown1, hg1⟩)
  refine (jpfKeys_any w1.heap.size w.heap.size n (objTo ss n) _ (by simp) (hown1.alloc _) (Nat.le_trans hown1.size_le hb)).mono ?_
  rintro e w2 ⟨g, cap2, ks, rfl, hperm, hks, hrow2, hg2⟩
  have hkl : ks.length ≤ 4096 := by
    exact Nat.le_trans hks (Nat.le_trans hown1.size_le hb)
  clear hks
  obtain ⟨m, hm⟩ : ∃ m, ks.length = m := ⟨_, rfl⟩
  rw [hm] at hrow2 hkl ⊢
  have HM : Hid (ks.length = m) := hm
  clear hm
  go_wp2_with (first
    | (at_make; refine wpList_make_full _ rfl _ _ 24 rfl w.heap.size 9 i0 (.string ⟨#[]⟩) 1 Uafg.underlying24 hi hz0 hz1 _ _ _ _ m rfl rfl rfl rfl (by rw [hz2]; omega) (by unfold maxLen; omega) (by have := hg1.size; have := hg2.size; simp at this; omega) ?_; intro w3 hrow3 hg3)
    | go_in)
  obtain ⟨B, hB⟩ : ∃ B, w2.heap.size = B := ⟨_, rfl⟩
  have hrow3' := made_row (enc := encStr) (z := []) hrow3 rfl
  clear hrow3
  rw [hB] at hrow3' ⊢
  have HB : Hid (w2.heap.size = B) := hB
  clear hB
  go_loopw [7] (fun i wr => ∃ (k : Nat) (L : List (List UInt8)), k ≤ m ∧ i = .int .i64 k ∧ L.take k = ks.take k ∧ wr.ownsRow w.heap.size 9 1 (.slice (some ⟨B, 0, none⟩) m m) m (L.map encStr) ∧ w2.grownBy wr none) (fun i _ => m - (intOf i).toNat)
  case atStart => exact ⟨0, List.replicate m [], Nat.zero_le _, rfl, rfl, hrow3', hg3⟩
  case round =>
    clear hrow3' hg3
    obtain ⟨k, L, hk, rfl, htk, hrow, hgw⟩ := hrel
    have hL : L.length = m := by simpa using hrow.1
    have HL : Hid (L.length = m) := hL
    clear hL
    by_cases hlt : k < m
    · obtain ⟨x, hx⟩ : ∃ x, ks[k]? = some x := ⟨_, List.getElem?_eq_getElem (by rw [HM.out]; exact hlt)⟩
      have hcx : wr.cell? ⟨g, k, none⟩ = some (boxS x) := hgw.cell (row_cell hrow2 hx) (by simp)
      obtain ⟨z, hz⟩ : ∃ z, L[k]? = some z := ⟨_, List.getElem?_eq_getElem (by rw [HL.out]; exact hlt)⟩
      have hcz : wr.cell? ⟨B, k, none⟩ = some (encStr z) := row_cell hrow hz
      have hfz := hrow.frozenAt k
      have HX : Hid (ks[k]? = some x) := hx
      clear hx hz
      go_wp2
      go_roundw
      case rel =>
        obtain ⟨s1, s2⟩ := hrow.stored k (encStr x)
        rw [← List.map_set] at s1
        exact ⟨k + 1, L.set k x, by omega, by go_num, take_set_succ (by rw [HL.out]; exact hlt) htk HX.out, s1, hgw.andThen s2 (fun j hj => by cases hj; exact .inl (Nat.le_of_eq HB.out))⟩
      case measure => simp [intOf]; omega
    · have hLk : L = ks := by
        rw [List.take_of_length_le (by rw [HL.out]; omega), List.take_of_length_le (by rw [HM.out]; omega)] at htk
        exact htk
      subst hLk
      go_wp2
      go_ret
      refine ⟨B, m, rfl, hkl, L, HM.out, hperm, hrow, ?_⟩
      exact (hg1.andThen ((World.grownBy_alloc w1 _ none).andThen hg2 (fun j hj => by cases hj)) (fun j hj => by cases hj)).andThen hgw (fun j hj => by cases hj)

end Go.Proofs.Youafw
