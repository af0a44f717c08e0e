/-
  YouafwValsWalk: THE WALK of FnValuesAreLastOccurrenceIndices (6): it returns true; nothing that was there has turned.
-/
import Derived.Test.YouafwZZVals
import Derived.Test.YouafwSortI
import Derived.Deep.QuietTactic
import Derived.BigQuiet
namespace Go.Proofs.Youafw
open Go.RowKit Go.Maps Go.Sort

theorem IsLast.start (ss : List (List UInt8)) (k : Nat) : IsLast ss (k + 1) k := fun j h1 h2 => by omega
theorem IsLast.step {ss : List (List UInt8)} {m k : Nat} {x y : List UInt8} (h : IsLast ss m k) (hx : ss[k]? = some x) (hy : ss[m]? = some y) (hne : (y == x) = false) : IsLast ss (m + 1) k := by
  obtain ⟨h1, e1⟩ := List.getElem?_eq_some_iff.1 hx
  obtain ⟨h2, e2⟩ := List.getElem?_eq_some_iff.1 hy
  intro j hj1 hj2
  by_cases hjm : j = m
  · subst hjm
    simpa [h1, h2, e1, e2] using hne
  · exact h j hj1 (by omega)
theorem IsLast.stop {ss : List (List UInt8)} {n m k : Nat} {x : List UInt8} (hx : ss[k]? = some x) (hy : ss[m]? = some x) (hkm : k < m) (hmn : m < n) : ¬ IsLast ss n k := by
  obtain ⟨h1, e1⟩ := List.getElem?_eq_some_iff.1 hx
  obtain ⟨h2, e2⟩ := List.getElem?_eq_some_iff.1 hy
  intro h
  refine h m hkm hmn ?_
  simp [h1, h2, e1, e2]

set_option maxRecDepth 100000 in
set_option maxHeartbeats 1000000 in
theorem valuesLaw_some (ad : Addr) (n cap : Nat) (ss : List (List UInt8)) (w : World) (hn : ss.length = n) (hr : n ≤ 8796093022208) (hl : ∀ x ∈ ss, x.length ≤ maxLen) (h : StrsIn w (some ad) ss) :
    Calls Uafg.prog 6 #[.slice (some ad) n cap] w fun e w' => e = .returned (.bool true) ∧ w.grownBy w' none := by
  have h24 := bytesValues_any (some ad) n cap ss w hn hr h
  have h8 := strBytes_any (some ad) n cap ss w hn hr h
  have h10 := fun hb => cloneStrs_some ad n cap ss w hn hb h
  have HN : Hid (ss.length = n) := hn
  clear hn h
  go_enter Uafg.func6, Uafg.ntmps6
  go_wp2_with (first
    | (go_at_call 24; refine h24.mono ?_; rintro e w1 ⟨⟨t, rfl⟩, hw1⟩; obtain rfl : w = w1 := hw1.symm)
    | (go_at_call 8; refine h8.mono ?_; rintro e w2 ⟨⟨t2, rfl⟩, hw2⟩; obtain rfl : w = w2 := hw2.symm))
  · go_ret
    exact ⟨rfl, World.grownBy.refl _ _⟩
  · go_ret
    exact ⟨rfl, World.grownBy.refl _ _⟩
  · go_ret
    exact ⟨rfl, World.grownBy.refl _ _⟩
  · have hb : n ≤ 4096 := by omega
    refine (h10 hb).mono ?_
    rintro e w1 ⟨rfl, hownK, hg1⟩
    clear h8 h24 h10
    obtain ⟨i0, hi, hz0, hz1, hz2⟩ := info_parts Uafg.info3
    obtain ⟨G, hG⟩ : ∃ G, w.heap.size = G := ⟨_, rfl⟩
    rw [hG] at hownK ⊢
    clear hG
    obtain ⟨C, hC⟩ : ∃ C, w1.heap.size = C := ⟨_, rfl⟩
    have HC : Hid (w1.heap.size = C) := hC
    go_wp2_with (first
      | (at_make; refine wpList_make_own _ rfl _ _ 42 rfl C 3 i0 (.int .i64 0) 1 Uafg.underlying42 hi hz0 hz1 _ _ _ n rfl rfl rfl (by rw [hz2]; omega) (by unfold maxLen; omega) (Nat.le_of_eq HC.out.symm) ?_; rw [hC]; intro w2 hrow2 hg2))
    clear hC
    go_loopw [3, 4] (fun v i wr => ∃ (k : Nat) (W : List Int), k ≤ n ∧ i = .int .i64 k ∧ v = .slice (some ⟨C, 0, none⟩) W.length n ∧ WantI ss n k W ∧ wr.ownsRow C 3 1 (.slice (some ⟨C, 0, none⟩) W.length n) W.length (W.map (Value.int .i64)) ∧ w1.grownBy wr none) (fun _ i _ => n - (intOf i).toNat)
    case atStart => exact ⟨0, [], Nat.zero_le _, rfl, rfl, WantI.start ss n, hrow2, hg2⟩
    case round =>
      clear hrow2 hg2
      obtain ⟨k, W, hk, rfl, rfl, hWI, hrw, hgw⟩ := hrel
      obtain ⟨q, hq⟩ : ∃ q, W.length = q := ⟨_, rfl⟩
      have hqk : q ≤ k := by rw [← hq]; exact hWI.1
      rw [hq] at hrw ⊢
      have HQ : Hid (W.length = q) := hq
      clear hq
      by_cases hlt : k < n
      · obtain ⟨x, hx⟩ : ∃ x, ss[k]? = some x := ⟨_, List.getElem?_eq_getElem (by rw [HN.out]; exact hlt)⟩
        have HX : Hid (ss[k]? = some x) := hx
        clear hx
        go_wp2
        go_loopw [5, 6] (fun l j wq => ∃ m : Nat, l = .bool true ∧ j = .int .i64 m ∧ k < m ∧ m ≤ n ∧ IsLast ss m k ∧ wq.ownsRow C 3 1 (.slice (some ⟨C, 0, none⟩) q n) q (W.map (Value.int .i64)) ∧ w1.grownBy wq none) (fun _ j _ => n - (intOf j).toNat)
        case atStart => exact ⟨k + 1, rfl, by go_num, by omega, by omega, IsLast.start ss k, hrw, hgw⟩
        case round =>
          clear hrw hgw
          obtain ⟨m, rfl, rfl, hkm, hmn, hlast, hrw, hgw⟩ := hrel
          by_cases hlm : m < n
          · obtain ⟨y, hy⟩ : ∃ y, ss[m]? = some y := ⟨_, List.getElem?_eq_getElem (by rw [HN.out]; exact hlm)⟩
            have hcx : wr.cell? ⟨G, k, none⟩ = some (encStr x) := hgw.cell (row_cell hownK HX.out) (by simp)
            have hcy : wr.cell? ⟨G, m, none⟩ = some (encStr y) := hgw.cell (row_cell hownK hy) (by simp)
            have HY : Hid (ss[m]? = some y) := hy
            clear hy
            have hk1 : (k : Int) < (n : Int) := by omega
            have hm1 : (m : Int) < (n : Int) := by omega
            by_cases hxy : y = x
            · subst hxy
              have HNL : Hid (¬ IsLast ss n k) := IsLast.stop HX.out HY.out hkm hlm
              go_wp2
              go_quiet (fail)
              go_wp2
              go_roundw
              case rel => exact ⟨k + 1, W, by omega, by go_num, by rw [HQ.out], hWI.no HNL.out, by rw [HQ.out]; exact hrw, grown_drewN hgw nq⟩
              case measure => simp [intOf]; omega
            · have hne : (y == x) = false := by simpa using hxy
              have HNE : Hid ((y == x) = false) := hne
              clear hxy
              go_wp2
              go_quiet (fail)
              go_wp2
              go_roundw
              case rel => exact ⟨m + 1, rfl, by go_num, by omega, by omega, hlast.step HX.out HY.out HNE.out, hrw, grown_drewN hgw nq⟩
              case measure => simp [intOf]; omega
          · have hIL : Hid (IsLast ss n k) := by
              have e1 : m = n := by omega
              rw [← e1]
              exact hlast
            clear hlast
            go_wp2_with (at_builtin; refine wpList_append_fits _ rfl _ _ 42 rfl C 3 i0 1 Uafg.underlying42 hi hz1 C q n _ rfl (hrw.alloc _) ⟨wr.heap.size, 0, none⟩ 1 1 [Value.int .i64 (k : Int)] rfl rfl (cell_one_new _ _ _) (by simp [Value.oneCell']) (by omega) ?_; intro w6 hrw6 hg6; go_frame)
            go_roundw
            case rel =>
              have hq1 : (W ++ [(k : Int)]).length = q + 1 := by simpa using HQ.out
              refine ⟨k + 1, W ++ [(k : Int)], by omega, by go_num, by rw [hq1], hWI.yes hIL.out, ?_, ?_⟩
              · rw [hq1]
                simpa using hrw6
              · exact (hgw.andThen (World.grownBy_alloc _ _ none) (fun j hj => by cases hj)).andThen hg6 (fun j hj => by cases hj; exact .inl (Nat.le_of_eq HC.out))
            case measure => simp [intOf]; omega
      · -- THE LOOP IS OVER
        have e1 : k = n := by omega
        subst e1
        have hin2 : StrsIn wr (some ⟨G, 0, none⟩) ss := by
          refine .inr ⟨G, 0, rfl, fun j hj => ?_⟩
          rw [Nat.zero_add]
          exact hgw.cell (row_cell hownK (by simp [hj])) (by simp)
        go_wp2_with fail
        refine (zzValues_any (some ⟨G, 0, none⟩) k k ss wr HN.out hb hl hin2).mono ?_
        rintro e w7 ⟨g, m, rfl, hm, xs, hxl, hks, hrow7, hg7⟩
        go_wp2_with fail
        refine (sortInts_any _ g m m _ w7 (by simpa using hxl) hm hrow7).mono ?_
        rintro e w8 ⟨rfl, ⟨gs, hpg, hsg, hrow8⟩, hg8⟩
        have hlaw : gs = W := values_law HN.out hWI hks.1 (fun x => by rw [hks.2 x, has_objTo ss x k (Nat.le_of_eq HN.out.symm), List.take_of_length_le (Nat.le_of_eq HN.out)]) hpg hsg
        have hmq : m = q := by
          have h1 : gs.length = m := by rw [hpg.length_eq]; simpa using hxl
          rw [← h1, hlaw]
          exact HQ.out
        subst hmq
        rw [← hlaw] at hrw
        have hg78 : wr.grownBy w8 none := hg7.andThen hg8 (fun j hj => by cases hj; exact .inl (hrow7.lt g rfl).1)
        have hrw8 := hrw.kept hg78 (by simp [Value.ownBlock])
        have hg18 : w1.grownBy w8 none := hgw.andThen hg78 (fun j hj => by cases hj)
        have hgl : gs.length = m := by simpa using hrow8.1
        have HGL : Hid (gs.length = m) := hgl
        clear hgl hg78 hrw hgw hin2 hrow7 hg7 hg8 hks hpg hsg hlaw hxl hWI
        obtain ⟨E, hE⟩ : ∃ E, wr.heap.size = E := ⟨_, rfl⟩
        rw [hE] at hrow8
        clear hE
        go_wp2
        go_loopw [8] (fun i wq => ∃ j : Nat, j ≤ m ∧ i = .int .i64 j ∧ wq.ownsRow E 3 1 (.slice (some ⟨g, 0, none⟩) m m) m (gs.map (Value.int .i64)) ∧ wq.ownsRow C 3 1 (.slice (some ⟨C, 0, none⟩) m k) m (gs.map (Value.int .i64)) ∧ w1.grownBy wq none) (fun i _ => m - (intOf i).toNat)
        case atStart => exact ⟨0, Nat.zero_le _, rfl, hrow8, hrw8, hg18⟩
        case round =>
          clear hrow8 hrw8 hg18
          obtain ⟨j, hj, rfl, hra, hrb, hgq⟩ := hrel
          by_cases hlt : j < m
          · obtain ⟨x, hx⟩ : ∃ x, gs[j]? = some x := ⟨_, List.getElem?_eq_getElem (by rw [HGL.out]; exact hlt)⟩
            have hca : wr.cell? ⟨g, j, none⟩ = some (Value.int .i64 x) := row_cell hra hx
            have hcb : wr.cell? ⟨C, j, none⟩ = some (Value.int .i64 x) := row_cell hrb hx
            have hj1 : (j : Int) < (m : Int) := by omega
            clear hx
            go_wp2
            go_quiet (fail)
            go_wp2
            go_roundw
            case rel => exact ⟨j + 1, by omega, by go_num, hra, hrb, grown_drewN hgq nq⟩
            case measure => simp [intOf]; omega
          · go_wp2
            go_ret
            exact ⟨rfl, hg1.andThen hgq (fun j hj => by cases hj)⟩

end Go.Proofs.Youafw
