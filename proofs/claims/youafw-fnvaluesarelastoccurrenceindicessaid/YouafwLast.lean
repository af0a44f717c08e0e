/-
  YouafwLast: plain laws on the last place of a key: what the object holds there; which places are last.
-/
import Derived.Test.YouafwObjLaw
import Derived.Test.YouafwJpfVals
import Derived.Test.YouafwPlain
namespace Go.Proofs.Youafw
open Go.RowKit Go.Maps

/-- The last place below k at which x stands. -/
def lastTo (ss : List (List UInt8)) (x : List UInt8) : Nat → Nat
  | 0 => 0
  | k + 1 => if ss.getD k [] = x then k else lastTo ss x k

theorem valsAt_objTo (ss : List (List UInt8)) : ∀ k, k ≤ ss.length → ValsAt (objTo ss k) (fun x => floatOfInt .f64 (lastTo ss x k))
  | 0, _ => by
    intro x hx
    simp [objTo, Maps.has] at hx
  | k + 1, hk => by
    have ih := valsAt_objTo ss k (by omega)
    intro x hx zd
    by_cases h : ss.getD k [] = x
    · simp only [lastTo, if_pos h]
      rw [objTo, h, atKey_put_same (isMap_objTo ss k) (show WideAt.IsKeyLit (.string _) from trivial)]
    · simp only [lastTo, if_neg h]
      have hne : (Lit.string x) ≠ .string (ss.getD k []) := fun e => h (by injection e with e; exact e.symm)
      rw [objTo, has_put_other hne] at hx
      rw [objTo, atKey_put_other hne]
      exact ih x hx zd

theorem lastTo_spec (ss : List (List UInt8)) (x : List UInt8) : ∀ k, k ≤ ss.length → x ∈ ss.take k → lastTo ss x k < k ∧ ss.getD (lastTo ss x k) [] = x ∧ ∀ j, lastTo ss x k < j → j < k → ss.getD j [] ≠ x
  | 0, _, h => by simp at h
  | k + 1, hk, h => by
    by_cases he : ss.getD k [] = x
    · rw [lastTo, if_pos he]
      exact ⟨by omega, he, fun j h1 h2 => by omega⟩
    · rw [lastTo, if_neg he]
      have hx : x ∈ ss.take k := by
        rw [List.take_succ_eq_append_getElem (by omega), List.mem_append, List.mem_singleton] at h
        refine h.resolve_right (fun e => he ?_)
        rw [e]
        simp [show k < ss.length by omega]
      obtain ⟨h1, h2, h3⟩ := lastTo_spec ss x k (by omega) hx
      refine ⟨by omega, h2, fun j hj1 hj2 => ?_⟩
      by_cases hjk : j = k
      · rw [hjk]; exact he
      · exact h3 j hj1 (by omega)

/-- PLACE i IS THE LAST OF ITS KEY. -/
def IsLast (ss : List (List UInt8)) (n i : Nat) : Prop := ∀ j, i < j → j < n → ss.getD j [] ≠ ss.getD i []

/-- WHAT THE FIRST LOOP HAS GATHERED behind k rounds: the last places below k, rising. -/
def WantI (ss : List (List UInt8)) (n k : Nat) (W : List Int) : Prop := W.length ≤ k ∧ Rising gtI W ∧ ∀ z : Int, z ∈ W ↔ ∃ i : Nat, z = i ∧ i < k ∧ IsLast ss n i

theorem WantI.start (ss : List (List UInt8)) (n : Nat) : WantI ss n 0 [] := ⟨by simp, by simp [Rising], fun z => by simp⟩

theorem WantI.yes {ss : List (List UInt8)} {n k : Nat} {W : List Int} (h : WantI ss n k W) (hk : IsLast ss n k) : WantI ss n (k + 1) (W ++ [(k : Int)]) := by
  obtain ⟨h1, h2, h3⟩ := h
  refine ⟨by simp; omega, List.pairwise_append.2 ⟨h2, by simp, fun a ha b hb => ?_⟩, fun z => ?_⟩
  · rw [List.mem_singleton] at hb
    obtain ⟨i, rfl, hi, _⟩ := (h3 a).1 ha
    subst hb
    simp [gtI]
    omega
  · rw [List.mem_append, List.mem_singleton, h3 z]
    constructor
    · rintro (⟨i, e, hi, hl⟩ | e)
      · exact ⟨i, e, by omega, hl⟩
      · exact ⟨k, e, by omega, hk⟩
    · rintro ⟨i, e, hi, hl⟩
      by_cases hik : i = k
      · right; rw [e, hik]
      · exact .inl ⟨i, e, by omega, hl⟩

theorem WantI.no {ss : List (List UInt8)} {n k : Nat} {W : List Int} (h : WantI ss n k W) (hk : ¬ IsLast ss n k) : WantI ss n (k + 1) W := by
  obtain ⟨h1, h2, h3⟩ := h
  refine ⟨by omega, h2, fun z => ?_⟩
  rw [h3 z]
  constructor
  · rintro ⟨i, e, hi, hl⟩
    exact ⟨i, e, by omega, hl⟩
  · rintro ⟨i, e, hi, hl⟩
    by_cases hik : i = k
    · exact absurd (hik ▸ hl) hk
    · exact ⟨i, e, by omega, hl⟩

/-- THE LAW OF THE VALUES: got, the sorted list of the last places of the distinct keys, IS what the loop has gathered. -/
theorem values_law {ss xs : List (List UInt8)} {n : Nat} {W got : List Int} (hn : ss.length = n) (hW : WantI ss n n W) (hx : xs.Nodup) (hm : ∀ x, x ∈ xs ↔ x ∈ ss) (hp : got.Perm (xs.map fun x => (lastTo ss x n : Int))) (hs : Sorted gtI got) : got = W := by
  obtain ⟨_, h2, h3⟩ := hW
  have spec : ∀ x, x ∈ xs → lastTo ss x n < n ∧ ss.getD (lastTo ss x n) [] = x ∧ ∀ j, lastTo ss x n < j → j < n → ss.getD j [] ≠ x := fun x h => by
    refine lastTo_spec ss x n (by omega) ?_
    rw [List.take_of_length_le (by omega)]
    exact (hm x).1 h
  have hnd : (xs.map fun x => (lastTo ss x n : Int)).Nodup := by
    refine List.pairwise_map.2 (List.Pairwise.imp_of_mem (fun {a b} ha hb hne e => hne ?_) hx)
    have e' : lastTo ss a n = lastTo ss b n := by omega
    rw [← (spec a ha).2.1, ← (spec b hb).2.1, e']
  refine Rising.same orderI (Rising.of_sorted orderI hs (hp.nodup_iff.2 hnd)) h2 (fun z => ?_)
  rw [hp.mem_iff, List.mem_map, h3 z]
  constructor
  · rintro ⟨x, hx', rfl⟩
    obtain ⟨s1, s2, s3⟩ := spec x hx'
    exact ⟨lastTo ss x n, rfl, s1, fun j h1 h2 => by rw [s2]; exact s3 j h1 h2⟩
  · rintro ⟨i, rfl, hi, hl⟩
    have hxi : ss.getD i [] ∈ xs := by rw [hm]; exact getD_mem ss (by omega)
    refine ⟨ss.getD i [], hxi, ?_⟩
    obtain ⟨s1, s2, s3⟩ := spec _ hxi
    have : lastTo ss (ss.getD i []) n = i := by
      rcases Nat.lt_trichotomy (lastTo ss (ss.getD i []) n) i with h | h | h
      · exact absurd rfl (s3 i h hi)
      · exact h
      · exact absurd s2 (hl _ h s1)
    rw [this]

end Go.Proofs.Youafw
