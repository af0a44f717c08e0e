/-
  YouafwKeysWalk: THE WALK of FnKeysAreTheDistinctKeys (5): it returns true; nothing that was there has turned.
-/
import Derived.Test.YouafwZZKeys
import Derived.Test.YouafwObjLaw
import Derived.Deep.QuietTactic
import Derived.BigQuiet
namespace Go.Proofs.Youafw
open Go.RowKit Go.Maps Go.Sort

/-- A ROUND THAT KEEPS ITS ELEMENT. -/
theorem want_more {w1 wr w6 : World} {B C n q k nq : Nat} {O : Obj} {ts : List (List UInt8)} {x : List UInt8} (hB : w1.heap.size = B) (hBC : B < C) (hq : (wantTo [] ts k).length = q) (hx : ts[k]? = some x) (hnew : k = 0 ∨ ts.getD k [] ≠ ts.getD (k - 1) [])
    (hrw6 : w6.ownsRow B 9 1 (.slice (some ⟨C, 0, none⟩) (q + 1) n) (q + 1) ((wantTo [] ts k).map encStr ++ [encStr x])) (hro : wr.ownsRow B 9 1 (.slice (some ⟨B, 0, none⟩) n n) n (ts.map encStr)) (hgw : w1.grownBy wr none) (hg6 : ((wr.drewN nq).alloc O).grownBy w6 (some C)) :
    (wantTo [] ts (k + 1)).length = q + 1 ∧ w6.ownsRow B 9 1 (.slice (some ⟨C, 0, none⟩) (q + 1) n) (q + 1) ((wantTo [] ts (k + 1)).map encStr) ∧ w6.ownsRow B 9 1 (.slice (some ⟨B, 0, none⟩) n n) n (ts.map encStr) ∧ w1.grownBy w6 none := by
  have hk : ts.getD k [] = x := by
    obtain ⟨hk, rfl⟩ := List.getElem?_eq_some_iff.1 hx
    simp [hk]
  have e1 := wantTo_yes [] ts k hnew
  rw [hk] at e1
  rw [e1]
  refine ⟨by simp [hq], by simpa using hrw6, ?_, ?_⟩
  · refine World.ownsRow.kept (w := (wr.drewN nq).alloc O) ?_ hg6 (.inr (by simp [Value.ownBlock]; omega))
    exact World.ownsRow.alloc (w := wr.drewN nq) hro O
  · exact ((grown_drewN hgw nq).andThen (World.grownBy_alloc _ O none) (fun j hj => by cases hj)).andThen hg6 (fun j hj => by cases hj; exact .inl (by omega))

/-- A ROUND THAT DROPS ITS ELEMENT. -/
theorem want_same {k : Nat} {ts : List (List UInt8)} {x : List UInt8} (hx : ts[k + 1]? = some x) (hy : ts[k]? = some x) : wantTo [] ts (k + 1 + 1) = wantTo [] ts (k + 1) := by
  obtain ⟨h1, e1⟩ := List.getElem?_eq_some_iff.1 hx
  obtain ⟨h2, e2⟩ := List.getElem?_eq_some_iff.1 hy
  refine wantTo_no [] ts (k + 1) (by omega) ?_
  simp [h1, h2, e1, e2]

theorem new_of {k : Nat} {ts : List (List UInt8)} {x y : List UInt8} (hx : ts[k + 1]? = some x) (hy : ts[k]? = some y) (hne : x ≠ y) : ts.getD (k + 1) [] ≠ ts.getD (k + 1 - 1) [] := by
  obtain ⟨h1, e1⟩ := List.getElem?_eq_some_iff.1 hx
  obtain ⟨h2, e2⟩ := List.getElem?_eq_some_iff.1 hy
  simpa [h1, h2, e1, e2] using hne

theorem row_drewN {w : World} {base e : Nat} {v : Value} {n : Nat} {xs : List Value} (h : w.ownsRow base e 1 v n xs) (m : Nat) : (w.drewN m).ownsRow base e 1 v n xs := h

set_option maxRecDepth 100000 in
set_option maxHeartbeats 1000000 in
theorem keysLaw_any (a : Option Addr) (n cap : Nat) (ss : List (List UInt8)) (w : World) (ha : a = none → n = 0 ∧ cap = 0) (hn : ss.length = n) (hr : n ≤ 8796093022208) (hl : ∀ x ∈ ss, x.length ≤ maxLen) (h : StrsIn w a ss) :
    Calls Uafg.prog 5 #[.slice a n cap] w fun e w' => e = .returned (.bool true) ∧ w.grownBy w' none := by
  have h21 := bytesKeys_any a n cap ss w hn hr h
  have h8 := strBytes_any a n cap ss w hn hr h
  have h10 := cloneStrs_any a n cap ss w ha hn
  have HN : Hid (ss.length = n) := hn
  have HI : Hid (StrsIn w a ss) := h
  clear hn h ha
  go_enter Uafg.func5, Uafg.ntmps5
  go_wp2_with (first
    | (go_at_call 21; refine h21.mono ?_; rintro e w1 ⟨⟨t, rfl⟩, hw1⟩; obtain rfl : w = w1 := hw1.symm)
    | (go_at_call 8; refine h8.mono ?_; rintro e w2 ⟨⟨t2, rfl⟩, hw2⟩; obtain rfl : w = w2 := hw2.symm))
  · go_ret
    exact ⟨rfl, World.grownBy.refl _ _⟩
  · go_ret
    exact ⟨rfl, World.grownBy.refl _ _⟩
  · go_ret
    exact ⟨rfl, World.grownBy.refl _ _⟩
  · have hb : n ≤ 4096 := by omega
    refine (h10 hb HI.out).mono ?_
    rintro e w1 ⟨a', c', rfl, hin, hg1⟩
    clear h8 h21 h10
    obtain ⟨i0, hi, hz0, hz1, hz2⟩ := info_parts Uafg.info9
    have hi1 : (Uafg.prog.info? 9).map (·.size) = some 1 := by rw [hi]; simp [hz1]
    obtain ⟨B, hB⟩ : ∃ B, w1.heap.size = B := ⟨_, rfl⟩
    have HB : Hid (w1.heap.size = B) := hB
    go_wp2_with (first
      | (at_make; refine wpList_make_full _ rfl (.tmp 20) (.tmp 20) 24 rfl B 9 i0 (.string ⟨#[]⟩) 1 Uafg.underlying24 hi hz0 hz1 _ _ _ _ n rfl rfl rfl rfl (by rw [hz2]; omega) (by unfold maxLen; omega) (Nat.le_of_eq HB.out.symm) ?_; rw [hB]; intro w2 hown2 hg2)
      | (refine wpList_copy_whole rfl (.tmp 22) (.tmp 23) 24 24 rfl 9 Uafg.underlying24 hi1 B B n n a' c' rfl rfl _ hown2 (ss.map encStr) (by simpa using HN.out) (CellsIn.grown hin.cells hg2) (strs_oneCell ss) ?_; intro w3 hown3 hg3))
    refine (sortStrs_any B B n n ss w3 HN.out hb hown3).mono ?_
    rintro e w4 ⟨rfl, ⟨ts, hpt, hst, hrow4⟩, hg4⟩
    have hg14 : w1.grownBy w4 none := ((hg2.andThen hg3 (fun j hj => by cases hj; exact .inl (Nat.le_of_eq HB.out))).andThen hg4 (fun j hj => by cases hj; exact .inl (Nat.le_of_eq HB.out)))
    have hB4 : B < w4.heap.size := (hrow4.lt B rfl).2
    clear hg2 hown2 hown3 hg3 hg4 hB
    obtain ⟨C, hC⟩ : ∃ C, w4.heap.size = C := ⟨_, rfl⟩
    rw [hC] at hB4
    have HC : Hid (w4.heap.size = C) := hC
    go_wp2_with (first
      | (at_make; refine wpList_make_own _ rfl _ _ 24 rfl B 9 i0 (.string ⟨#[]⟩) 1 Uafg.underlying24 hi hz0 hz1 _ _ _ n rfl rfl rfl (by rw [hz2]; omega) (by unfold maxLen; omega) (by rw [HC.out]; omega) ?_; rw [hC]; intro w5 hrow5 hg5))
    clear hC
    have hrow5o := hrow4.kept hg5 (by simp [Value.ownBlock])
    have hg15 : w1.grownBy w5 none := hg14.andThen hg5 (fun j hj => by cases hj)
    go_loopw [4, 5] (fun v i wr => ∃ k : Nat, k ≤ n ∧ i = .int .i64 k ∧ v = .slice (some ⟨C, 0, none⟩) (wantTo [] ts k).length n ∧ wr.ownsRow B 9 1 (.slice (some ⟨C, 0, none⟩) (wantTo [] ts k).length n) (wantTo [] ts k).length ((wantTo [] ts k).map encStr) ∧
        wr.ownsRow B 9 1 (.slice (some ⟨B, 0, none⟩) n n) n (ts.map encStr) ∧ w1.grownBy wr none) (fun _ i _ => n - (intOf i).toNat)
    case atStart => exact ⟨0, Nat.zero_le _, rfl, rfl, hrow5, hrow5o, hg15⟩
    case round =>
      clear hrow5 hg5 hrow5o hg15 hrow4
      obtain ⟨k, hk, rfl, rfl, hrw, hro, hgw⟩ := hrel
      have hT : ts.length = n := by simpa using hro.1
      have HT : Hid (ts.length = n) := hT
      clear hT
      have hwl := wantTo_le [] ts k
      obtain ⟨q, hq⟩ : ∃ q, (wantTo [] ts k).length = q := ⟨_, rfl⟩
      rw [hq] at hrw hwl ⊢
      have HQ : Hid ((wantTo [] ts k).length = q) := hq
      clear hq
      by_cases hlt : k < n
      · obtain ⟨x, hx⟩ : ∃ x, ts[k]? = some x := ⟨_, List.getElem?_eq_getElem (by rw [HT.out]; exact hlt)⟩
        have hcx : wr.cell? ⟨B, k, none⟩ = some (encStr x) := row_cell hro hx
        have HX : Hid (ts[k]? = some x) := hx
        clear hx
        rcases k with _ | k
        · go_wp2
          go_quiet (fail)
          go_wp2_with (at_builtin; refine wpList_append_fits _ rfl _ _ 24 rfl B 9 i0 1 Uafg.underlying24 hi hz1 C q n _ rfl ((row_drewN hrw _).alloc _) ⟨wr.heap.size, 0, none⟩ 1 1 [encStr x] rfl rfl (cell_one_new _ _ _) (by simp [Value.oneCell']) (by omega) ?_; intro w6 hrw6 hg6; go_frame)
          go_roundw
          case rel =>
            obtain ⟨r1, r2, r3, r4⟩ := want_more HB.out hB4 HQ.out HX.out (.inl rfl) hrw6 hro hgw hg6
            rw [← r1] at r2
            exact ⟨1, by omega, rfl, by rw [r1], r2, r3, r4⟩
          case measure => simp [intOf]; omega
        · obtain ⟨y, hy⟩ : ∃ y, ts[k]? = some y := ⟨_, List.getElem?_eq_getElem (by rw [HT.out]; omega)⟩
          have hcy : wr.cell? ⟨B, k, none⟩ = some (encStr y) := row_cell hro hy
          have HY : Hid (ts[k]? = some y) := hy
          clear hy
          have hd : ((k : Int) + 1 == 0) = false := by rw [beq_eq_false_iff_ne]; omega
          have hx0 : (0 : Int) ≤ (k : Int) + 1 := by omega
          have hx1 : (k : Int) + 1 < (n : Int) := by omega
          have hx2 : (k : Int) < (n : Int) := by omega
          by_cases hxy : x = y
          · subst hxy
            go_wp2
            go_quiet (fail)
            go_wp2
            go_roundw
            case rel =>
              have e1 := want_same HX.out HY.out
              have e2 : (wantTo [] ts (k + 1 + 1)).length = q := by rw [e1]; exact HQ.out
              refine ⟨k + 1 + 1, by omega, by go_num, by rw [e2], ?_, hro, grown_drewN hgw nq⟩
              rw [e2, e1]
              exact hrw
            case measure => simp [intOf]; omega
          · have hne : (x == y) = false := by simpa using hxy
            have HNE : Hid (x ≠ y) := hxy
            clear hxy
            go_wp2
            go_quiet (fail)
            go_wp2_with (at_builtin; refine wpList_append_fits _ rfl _ _ 24 rfl B 9 i0 1 Uafg.underlying24 hi hz1 C q n _ rfl ((row_drewN hrw _).alloc _) ⟨wr.heap.size, 0, none⟩ 1 1 [encStr x] rfl rfl (cell_one_new _ _ _) (by simp [Value.oneCell']) (by omega) ?_; intro w6 hrw6 hg6; go_frame)
            go_roundw
            case rel =>
              obtain ⟨r1, r2, r3, r4⟩ := want_more HB.out hB4 HQ.out HX.out (.inr (new_of HX.out HY.out HNE.out)) hrw6 hro hgw hg6
              rw [← r1] at r2
              exact ⟨k + 1 + 1, by omega, by go_num, by rw [r1], r2, r3, r4⟩
            case measure => simp [intOf]; omega
      · -- THE LOOP IS OVER
        have e1 : k = n := by omega
        subst e1
        have hin2 := hin.kept hgw
        go_wp2_with fail
        refine (zzKeys_any a' k c' ss wr HN.out hb hl hin2).mono ?_
        rintro e w7 ⟨g, m, rfl, hm, ks, hkl, hks, hrow7, hg7⟩
        go_wp2_with fail
        refine (sortStrs_any _ g m m ks w7 hkl hm hrow7).mono ?_
        rintro e w8 ⟨rfl, ⟨gs, hpg, hsg, hrow8⟩, hg8⟩
        have hlaw : gs = wantTo [] ts k := by
          have := keys_law orderS [] hpt hst hks.1 (fun x => by rw [hks.2 x, has_objTo ss x k (Nat.le_of_eq HN.out.symm), List.take_of_length_le (Nat.le_of_eq HN.out)]) hpg hsg
          rwa [HT.out] at this
        have hmq : m = q := by
          have h1 : gs.length = m := by rw [hpg.length_eq]; exact hkl
          rw [← h1, hlaw]
          exact HQ.out
        subst hmq
        rw [← hlaw] at hrw
        have hg78 : wr.grownBy w8 none := hg7.andThen hg8 (fun j hj => by cases hj; exact .inl (hrow7.lt g rfl).1)
        have hrw8 := hrw.kept hg78 (by simp [Value.ownBlock])
        have hg18 : w1.grownBy w8 none := hgw.andThen hg78 (fun j hj => by cases hj)
        have hgl : gs.length = m := by simpa using hrow8.1
        have HGL : Hid (gs.length = m) := hgl
        clear hgl hg78 hrw hro hgw hin2 hrow7 hg7 hg8 hpt hst hks hpg hsg hlaw hkl
        obtain ⟨E, hE⟩ : ∃ E, wr.heap.size = E := ⟨_, rfl⟩
        rw [hE] at hrow8
        clear hE
        go_wp2
        go_loopw [7] (fun i wq => ∃ j : Nat, j ≤ m ∧ i = .int .i64 j ∧ wq.ownsRow E 9 1 (.slice (some ⟨g, 0, none⟩) m m) m (gs.map encStr) ∧ wq.ownsRow B 9 1 (.slice (some ⟨C, 0, none⟩) m k) m (gs.map encStr) ∧ w1.grownBy wq none) (fun i _ => m - (intOf i).toNat)
        case atStart => exact ⟨0, Nat.zero_le _, rfl, hrow8, hrw8, hg18⟩
        case round =>
          clear hrow8 hrw8 hg18
          obtain ⟨j, hj, rfl, hra, hrb, hgq⟩ := hrel
          by_cases hlt : j < m
          · obtain ⟨x, hx⟩ : ∃ x, gs[j]? = some x := ⟨_, List.getElem?_eq_getElem (by rw [HGL.out]; exact hlt)⟩
            have hca : wr.cell? ⟨g, j, none⟩ = some (encStr x) := row_cell hra hx
            have hcb : wr.cell? ⟨C, j, none⟩ = some (encStr x) := row_cell hrb hx
            have hj1 : (j : Int) < (m : Int) := by omega
            clear hx
            go_wp2
            go_quiet (fail)
            go_wp2
            go_roundw
            case rel => exact ⟨j + 1, by omega, by go_num, hra, hrb, grown_drewN hgq nq⟩
            case measure => simp [intOf]; omega
          · go_wp2
            go_ret
            exact ⟨rfl, hg1.andThen hgq (fun j hj => by cases hj)⟩

end Go.Proofs.Youafw
