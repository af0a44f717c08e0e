/-
  YouafwSortS: the walk of zzSortStrings (22): the same slice owns a sorted permutation.
-/
import Derived.Test.YouafwClone
import Derived.Test.YouafwPlain
import Derived.Lib.Strings
namespace Go.Proofs.Youafw
open Go.RowKit

theorem bytesLess_gtS : ∀ x y : List UInt8, Op.bytesLess x y = gtS y x
  | [], [] => by simp [Op.bytesLess, gtS]
  | [], b :: y => by simp [Op.bytesLess, gtS]
  | a :: x, [] => by simp [Op.bytesLess, gtS]
  | a :: x, b :: y => by
    have ih := bytesLess_gtS x y
    unfold gtS at ih ⊢
    unfold Op.bytesLess
    rw [ih]
    have e : (a :: x < b :: y) ↔ (a < b ∨ a = b ∧ x < y) := List.cons_lt_cons_iff
    rw [show decide (a :: x < b :: y) = decide (a < b ∨ a = b ∧ x < y) from decide_eq_decide.2 e]
    by_cases h1 : a < b <;> by_cases h2 : a = b <;> by_cases h3 : x < y <;> simp [h1, h2, h3]

/-- The walk's own words for 'y > v' on strings. -/
theorem gt_yes {y v : List UInt8} (h : (!Op.bytesLess y v) = true ∧ (!y == v) = true) : gtS y v = true := by
  rw [bytesLess_gtS] at h
  cases hg : gtS y v
  · have := orderS.anti y v hg (by simpa using h.1)
    simp [this] at h
  · rfl
theorem gt_no {y v : List UInt8} (h : (!Op.bytesLess y v) = false ∨ (!y == v) = false) : gtS y v = false := by
  rw [bytesLess_gtS] at h
  rcases h with h | h
  · exact orderS.asymm _ _ (by simpa using h)
  · have : y = v := by simpa using h
    rw [this]
    exact orderS.self v

section
variable {α : Type} {enc : α → Value} {gt : α → α → Bool} {ss L M : List α} {w wr : World} {base e g n cap k m : Nat} {v : α}

/-- A row's cell. -/
theorem row_cell (hrow : wr.ownsRow base e 1 (.slice (some ⟨g, 0, none⟩) n cap) n (M.map enc)) {j : Nat} {y : α} (hy : M[j]? = some y) : wr.cell? ⟨g, j, none⟩ = some (enc y) := by
  have hM : M.length = n := by simpa using hrow.1
  have hj := (List.getElem?_eq_some_iff.1 hy).1
  rw [hrow.cellAt j (by omega)]
  simp [hy]

/-- A STORE INTO THE ROW. -/
theorem row_store (hrow : wr.ownsRow base e 1 (.slice (some ⟨g, 0, none⟩) n cap) n (M.map enc)) (hg : w.grownBy wr (some g)) (j : Nat) (y : α) :
    (wr.setCell ⟨g, j, none⟩ (enc y)).ownsRow base e 1 (.slice (some ⟨g, 0, none⟩) n cap) n ((M.set j y).map enc) ∧ w.grownBy (wr.setCell ⟨g, j, none⟩ (enc y)) (some g) := by
  obtain ⟨h1, h2⟩ := hrow.stored j (enc y)
  rw [List.map_set]
  exact ⟨h1, hg.andThen h2 (fun _ h => .inr h)⟩

theorem split_at (hL : L.length = n) (hk : k < n) (hv : L[k]? = some v) : L = L.take k ++ v :: L.drop (k + 1) := by
  have hk' : k < L.length := by omega
  rw [List.getElem?_eq_getElem hk'] at hv
  cases hv
  rw [← drop_cons hk', List.take_append_drop]

theorem hole_start (gt : α → α → Bool) (hL : L.length = n) (hk : k < n) (hv : L[k]? = some v) : Hole gt (L.take k) (L.drop (k + 1)) v k L := by
  have h := Hole.start gt (L.take k) (L.drop (k + 1)) v
  rw [← split_at hL hk hv] at h
  have e1 : (L.take k).length = k := by simp; omega
  rwa [e1] at h

theorem hole_end (O : Order gt) (hL : L.length = n) (hk : k < n) (hv : L[k]? = some v) (hp : L.Perm ss) (hs : Sorted gt (L.take k)) (hH : Hole gt (L.take k) (L.drop (k + 1)) v m M) (hst : m = 0 ∨ ∃ k y, m = k + 1 ∧ M[k]? = some y ∧ gt y v = false) :
    (M.set m v).Perm ss ∧ Sorted gt ((M.set m v).take (k + 1)) := by
  obtain ⟨Q, q1, q2, q3, q4⟩ := hH.stop O hs hst
  rw [← split_at hL hk hv] at q4
  rw [q3]
  refine ⟨q4.trans hp, ?_⟩
  have e1 : Q.length = k + 1 := by rw [q1]; simp; omega
  rw [← e1, List.take_left]
  exact q2
end

set_option maxHeartbeats 400000 in
theorem sortStrs_any (base g n cap : Nat) (ss : List (List UInt8)) (w : World) (hn : ss.length = n) (hb : n ≤ 4096) (hown : w.ownsRow base 9 1 (.slice (some ⟨g, 0, none⟩) n cap) n (ss.map encStr)) :
    Calls Uafg.prog 22 #[.slice (some ⟨g, 0, none⟩) n cap] w fun e w' => e = .returned (.tuple #[]) ∧ (∃ ts, ts.Perm ss ∧ Sorted gtS ts ∧ w'.ownsRow base 9 1 (.slice (some ⟨g, 0, none⟩) n cap) n (ts.map encStr)) ∧ w.grownBy w' (some g) := by
  go_enter Uafg.func22, Uafg.ntmps22
  go_wp2
  go_loopw [2] (fun i wr => ∃ (k : Nat) (L : List (List UInt8)), i = .int .i64 k ∧ 1 ≤ k ∧ (k ≤ n ∨ k = 1) ∧ L.Perm ss ∧ Sorted gtS (L.take k) ∧ wr.ownsRow base 9 1 (.slice (some ⟨g, 0, none⟩) n cap) n (L.map encStr) ∧ w.grownBy wr (some g)) (fun i _ => n - (intOf i).toNat)
  case atStart =>
    refine ⟨1, ss, rfl, Nat.le_refl _, .inr rfl, List.Perm.refl _, ?_, hown, World.grownBy.refl _ _⟩
    match ss with
    | [] => simp [Sorted]
    | x :: r => simp [Sorted]
  case round =>
    obtain ⟨k, L, rfl, hk1, hkn, hp, hso, hrow, hgw⟩ := hrel
    have hL : L.length = n := by rw [hp.length_eq]; exact hn
    have HN : Hid (ss.length = n) := hn
    have HL : Hid (L.length = n) := hL
    clear hn hL
    by_cases hlt : k < n
    · obtain ⟨v, hv⟩ : ∃ v, L[k]? = some v := ⟨_, List.getElem?_eq_getElem (by rw [HL.out]; exact hlt)⟩
      have hck : wr.cell? ⟨g, k, none⟩ = some (encStr v) := row_cell hrow hv
      have HV : Hid (L[k]? = some v) := hv
      clear hv
      go_wp2
      go_loopw [4] (fun j wq => ∃ (m : Nat) (M : List (List UInt8)), j = .int .i64 m ∧ m ≤ k ∧ Hole gtS (L.take k) (L.drop (k + 1)) v m M ∧ wq.ownsRow base 9 1 (.slice (some ⟨g, 0, none⟩) n cap) n (M.map encStr) ∧ w.grownBy wq (some g)) (fun j _ => (intOf j).toNat)
      case atStart => exact ⟨k, L, rfl, Nat.le_refl _, hole_start gtS HL.out hlt HV.out, hrow, hgw⟩
      case round =>
        clear hck hrow hgw
        obtain ⟨m, M, rfl, hmk, hH, hrow2, hgw2⟩ := hrel
        have hM : M.length = n := by simpa using hrow2.1
        have HM : Hid (M.length = n) := hM
        clear hM
        have hfr := fun j => hrow2.frozenAt j
        rcases m with _ | m
        · obtain ⟨z, hz⟩ : ∃ z, M[0]? = some z := ⟨_, List.getElem?_eq_getElem (by rw [HM.out]; omega)⟩
          have hcz : wr.cell? ⟨g, 0, none⟩ = some (encStr z) := row_cell hrow2 hz
          clear hz
          go_wp2
          go_roundw
          case rel =>
            obtain ⟨r1, r2⟩ := hole_end orderS HL.out hlt HV.out hp hso hH (.inl rfl)
            obtain ⟨s1, s2⟩ := row_store hrow2 hgw2 0 v
            exact ⟨k + 1, M.set 0 v, by go_num, by omega, by omega, r1, r2, s1, s2⟩
          case measure => simp [intOf]; omega
        · obtain ⟨y, hy⟩ : ∃ y, M[m]? = some y := ⟨_, List.getElem?_eq_getElem (by rw [HM.out]; omega)⟩
          have hcy : wr.cell? ⟨g, m, none⟩ = some (encStr y) := row_cell hrow2 hy
          have HY : Hid (M[m]? = some y) := hy
          clear hy
          obtain ⟨z, hz⟩ : ∃ z, M[m + 1]? = some z := ⟨_, List.getElem?_eq_getElem (by rw [HM.out]; omega)⟩
          have hcz : wr.cell? ⟨g, m + 1, none⟩ = some (encStr z) := row_cell hrow2 hz
          clear hz
          go_wp2
          · have hgt : gtS y v = true := gt_yes (by assumption)
            go_roundw
            case rel =>
              obtain ⟨s1, s2⟩ := row_store hrow2 hgw2 (m + 1) y
              exact ⟨m, M.set (m + 1) y, rfl, by omega, hH.step HY.out hgt, s1, s2⟩
            case measure => simp [intOf]
          · have hgt : gtS y v = false := gt_no (by assumption)
            go_roundw
            case rel =>
              obtain ⟨r1, r2⟩ := hole_end orderS HL.out hlt HV.out hp hso hH (.inr ⟨m, y, rfl, HY.out, hgt⟩)
              obtain ⟨s1, s2⟩ := row_store hrow2 hgw2 (m + 1) v
              exact ⟨k + 1, M.set (m + 1) v, by go_num, by omega, by omega, r1, r2, s1, s2⟩
            case measure => simp [intOf]; omega
    · go_wp2
      go_end0
      have e1 : L.take k = L := List.take_of_length_le (by rw [HL.out]; omega)
      rw [e1] at hso
      exact ⟨rfl, ⟨L, hp, hso, hrow⟩, hgw⟩

end Go.Proofs.Youafw
