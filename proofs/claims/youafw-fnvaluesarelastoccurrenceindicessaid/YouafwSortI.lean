/-
  YouafwSortI: the walk of zzSortInts (26): the same slice owns a sorted permutation.
-/
import Derived.Test.YouafwSortS
namespace Go.Proofs.Youafw
open Go.RowKit

theorem gtI_yes {y v : Int} (h : v < y) : gtI y v = true := by simpa [gtI] using h
theorem gtI_no {y v : Int} (h : y ≤ v) : gtI y v = false := by simpa [gtI] using h

set_option maxHeartbeats 400000 in
theorem sortInts_any (base g n cap : Nat) (ss : List Int) (w : World) (hn : ss.length = n) (hb : n ≤ 4096) (hown : w.ownsRow base 3 1 (.slice (some ⟨g, 0, none⟩) n cap) n (ss.map (Value.int .i64))) :
    Calls Uafg.prog 26 #[.slice (some ⟨g, 0, none⟩) n cap] w fun e w' => e = .returned (.tuple #[]) ∧ (∃ ts, ts.Perm ss ∧ Sorted gtI ts ∧ w'.ownsRow base 3 1 (.slice (some ⟨g, 0, none⟩) n cap) n (ts.map (Value.int .i64))) ∧ w.grownBy w' (some g) := by
  go_enter Uafg.func26, Uafg.ntmps26
  go_wp2
  go_loopw [2] (fun i wr => ∃ (k : Nat) (L : List Int), i = .int .i64 k ∧ 1 ≤ k ∧ (k ≤ n ∨ k = 1) ∧ L.Perm ss ∧ Sorted gtI (L.take k) ∧ wr.ownsRow base 3 1 (.slice (some ⟨g, 0, none⟩) n cap) n (L.map (Value.int .i64)) ∧ w.grownBy wr (some g)) (fun i _ => n - (intOf i).toNat)
  case atStart =>
    refine ⟨1, ss, rfl, Nat.le_refl _, .inr rfl, List.Perm.refl _, ?_, hown, World.grownBy.refl _ _⟩
    match ss with
    | [] => simp [Sorted]
    | x :: r => simp [Sorted]
  case round =>
    obtain ⟨k, L, rfl, hk1, hkn, hp, hso, hrow, hgw⟩ := hrel
    have hL : L.length = n := by rw [hp.length_eq]; exact hn
    have HN : Hid (ss.length = n) := hn
    have HL : Hid (L.length = n) := hL
    clear hn hL
    by_cases hlt : k < n
    · obtain ⟨v, hv⟩ : ∃ v, L[k]? = some v := ⟨_, List.getElem?_eq_getElem (by rw [HL.out]; exact hlt)⟩
      have hck : wr.cell? ⟨g, k, none⟩ = some (Value.int .i64 v) := row_cell hrow hv
      have HV : Hid (L[k]? = some v) := hv
      clear hv
      go_wp2
      go_loopw [4] (fun j wq => ∃ (m : Nat) (M : List Int), j = .int .i64 m ∧ m ≤ k ∧ Hole gtI (L.take k) (L.drop (k + 1)) v m M ∧ wq.ownsRow base 3 1 (.slice (some ⟨g, 0, none⟩) n cap) n (M.map (Value.int .i64)) ∧ w.grownBy wq (some g)) (fun j _ => (intOf j).toNat)
      case atStart => exact ⟨k, L, rfl, Nat.le_refl _, hole_start gtI HL.out hlt HV.out, hrow, hgw⟩
      case round =>
        clear hck hrow hgw
        obtain ⟨m, M, rfl, hmk, hH, hrow2, hgw2⟩ := hrel
        have hM : M.length = n := by simpa using hrow2.1
        have HM : Hid (M.length = n) := hM
        clear hM
        have hfr := fun j => hrow2.frozenAt j
        rcases m with _ | m
        · obtain ⟨z, hz⟩ : ∃ z, M[0]? = some z := ⟨_, List.getElem?_eq_getElem (by rw [HM.out]; omega)⟩
          have hcz : wr.cell? ⟨g, 0, none⟩ = some (Value.int .i64 z) := row_cell hrow2 hz
          clear hz
          go_wp2
          go_roundw
          case rel =>
            obtain ⟨r1, r2⟩ := hole_end orderI HL.out hlt HV.out hp hso hH (.inl rfl)
            obtain ⟨s1, s2⟩ := row_store hrow2 hgw2 0 v
            exact ⟨k + 1, M.set 0 v, by go_num, by omega, by omega, r1, r2, s1, s2⟩
          case measure => simp [intOf]; omega
        · obtain ⟨y, hy⟩ : ∃ y, M[m]? = some y := ⟨_, List.getElem?_eq_getElem (by rw [HM.out]; omega)⟩
          have hcy : wr.cell? ⟨g, m, none⟩ = some (Value.int .i64 y) := row_cell hrow2 hy
          have HY : Hid (M[m]? = some y) := hy
          clear hy
          obtain ⟨z, hz⟩ : ∃ z, M[m + 1]? = some z := ⟨_, List.getElem?_eq_getElem (by rw [HM.out]; omega)⟩
          have hcz : wr.cell? ⟨g, m + 1, none⟩ = some (Value.int .i64 z) := row_cell hrow2 hz
          clear hz
          go_wp2
          · have hgt : gtI y v = true := gtI_yes (by assumption)
            go_roundw
            case rel =>
              obtain ⟨s1, s2⟩ := row_store hrow2 hgw2 (m + 1) y
              exact ⟨m, M.set (m + 1) y, rfl, by omega, hH.step HY.out hgt, s1, s2⟩
            case measure => simp [intOf]
          · have hgt : gtI y v = false := gtI_no (by assumption)
            go_roundw
            case rel =>
              obtain ⟨r1, r2⟩ := hole_end orderI HL.out hlt HV.out hp hso hH (.inr ⟨m, y, rfl, HY.out, hgt⟩)
              obtain ⟨s1, s2⟩ := row_store hrow2 hgw2 (m + 1) v
              exact ⟨k + 1, M.set (m + 1) v, by go_num, by omega, by omega, r1, r2, s1, s2⟩
            case measure => simp [intOf]; omega
    · go_wp2
      go_end0
      have e1 : L.take k = L := List.take_of_length_le (by rw [HL.out]; omega)
      rw [e1] at hso
      exact ⟨rfl, ⟨L, hp, hso, hrow⟩, hgw⟩

end Go.Proofs.Youafw
