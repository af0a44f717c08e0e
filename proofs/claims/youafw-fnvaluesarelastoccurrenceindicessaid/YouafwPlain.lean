/-
  YouafwPlain: THE PLAIN LAWS: lists alone, no Go in sight. Insertion sort round by round; a sorted list without its repeats; two rising lists with the same members are one.
-/
namespace Go.Proofs.Youafw

section
variable {α : Type}

/-- WHAT AN ORDER's TEST 'gt' ("the first stands behind the second") MUST BE. -/
structure Order (gt : α → α → Bool) : Prop where
  trans : ∀ a b c, gt a b = false → gt b c = false → gt a c = false
  asymm : ∀ a b, gt a b = true → gt b a = false
  anti : ∀ a b, gt a b = false → gt b a = false → a = b

/-- No element stands behind a later one. -/
def Sorted (gt : α → α → Bool) (l : List α) : Prop := l.Pairwise (fun x y => gt x y = false)

/-- Every later element stands behind. -/
def Rising (gt : α → α → Bool) (l : List α) : Prop := l.Pairwise (fun x y => gt y x = true)

theorem Order.self {gt : α → α → Bool} (O : Order gt) (a : α) : gt a a = false := by
  cases h : gt a a
  · rfl
  · have := O.asymm a a h
    rw [h] at this
    exact this

/-! ### The inner loop of an insertion sort: P is the sorted head, v the element that is being placed, m the hole -/
def Hole (gt : α → α → Bool) (P rest : List α) (v : α) (m : Nat) (L : List α) : Prop :=
  m ≤ P.length ∧ (∃ x, L = P.take m ++ x :: (P.drop m ++ rest)) ∧ ∀ y ∈ P.drop m, gt y v = true

theorem Hole.start (gt : α → α → Bool) (P rest : List α) (v : α) : Hole gt P rest v P.length (P ++ v :: rest) :=
  ⟨Nat.le_refl _, ⟨v, by simp⟩, by simp⟩

theorem Hole.length {gt : α → α → Bool} {P rest : List α} {v : α} {m : Nat} {L : List α} (h : Hole gt P rest v m L) : L.length = P.length + 1 + rest.length := by
  obtain ⟨h1, ⟨x, rfl⟩, _⟩ := h
  simp
  omega

theorem drop_cons {P : List α} {m : Nat} (h : m < P.length) : P.drop m = P[m] :: P.drop (m + 1) := List.drop_eq_getElem_cons h

/-- The element ahead of the hole. -/
theorem Hole.ahead {gt : α → α → Bool} {P rest : List α} {v : α} {m : Nat} {L : List α} (h : Hole gt P rest v (m + 1) L) : ∃ hm : m < P.length, L[m]? = some P[m] := by
  obtain ⟨h1, ⟨x, rfl⟩, _⟩ := h
  refine ⟨by omega, ?_⟩
  rw [List.getElem?_append_left (by simp; omega), List.getElem?_take_of_lt (by omega), List.getElem?_eq_getElem (by omega)]

theorem Hole.step {gt : α → α → Bool} {P rest : List α} {v : α} {m : Nat} {L : List α} {y : α} (h : Hole gt P rest v (m + 1) L) (hy : L[m]? = some y) (hg : gt y v = true) : Hole gt P rest v m (L.set (m + 1) y) := by
  obtain ⟨hm, hP⟩ := h.ahead
  rw [hP] at hy
  cases hy
  obtain ⟨h1, ⟨x, rfl⟩, h3⟩ := h
  refine ⟨by omega, ⟨P[m], ?_⟩, ?_⟩
  · have e1 : (P.take (m + 1)).length = m + 1 := by simp; omega
    rw [List.set_append_right _ _ (by omega), e1, Nat.sub_self, List.set_cons_zero, List.take_succ_eq_append_getElem hm, drop_cons hm]
    simp only [List.append_assoc, List.nil_append, List.cons_append]
  · intro y hy
    rw [drop_cons hm] at hy
    rcases List.mem_cons.1 hy with rfl | hy
    · exact hg
    · exact h3 y hy

/-- THE ELEMENT IS PLACED: the head is sorted, one longer; nothing is lost. -/
theorem Hole.stop {gt : α → α → Bool} (O : Order gt) {P rest : List α} {v : α} {m : Nat} {L : List α} (h : Hole gt P rest v m L) (hs : Sorted gt P) (hst : m = 0 ∨ ∃ k y, m = k + 1 ∧ L[k]? = some y ∧ gt y v = false) :
    ∃ Q, Q.length = P.length + 1 ∧ Sorted gt Q ∧ L.set m v = Q ++ rest ∧ (Q ++ rest).Perm (P ++ v :: rest) := by
  have hall : ∀ y ∈ P.take m, gt y v = false := by
    rcases hst with rfl | ⟨k, y, rfl, hk, hyv⟩
    · simp
    · obtain ⟨hm, hP⟩ := h.ahead
      rw [hP] at hk
      cases hk
      intro z hz
      rw [List.take_succ_eq_append_getElem hm] at hz
      rcases List.mem_append.1 hz with hz | hz
      · obtain ⟨i, hi, rfl⟩ := List.getElem_of_mem hz
        have hi' : i < k := by simp at hi; omega
        rw [List.getElem_take]
        exact O.trans _ _ _ (List.pairwise_iff_getElem.1 hs i k (by omega) hm hi') hyv
      · simp at hz
        rw [hz]
        exact hyv
  obtain ⟨h1, ⟨x, rfl⟩, h3⟩ := h
  have hPs : Sorted gt (P.take m ++ P.drop m) := by rw [List.take_append_drop]; exact hs
  obtain ⟨s1, s2, s3⟩ := List.pairwise_append.1 hPs
  refine ⟨P.take m ++ v :: P.drop m, by simp; omega, ?_, ?_, ?_⟩
  · refine List.pairwise_append.2 ⟨s1, List.pairwise_cons.2 ⟨fun y hy => O.asymm _ _ (h3 y hy), s2⟩, ?_⟩
    intro a ha b hb
    rcases List.mem_cons.1 hb with rfl | hb
    · exact hall a ha
    · exact s3 a ha b hb
  · have e1 : (P.take m).length = m := by simp; omega
    rw [List.set_append_right _ _ (by omega), e1, Nat.sub_self, List.set_cons_zero]
    simp
  · have p1 : (P.take m ++ v :: P.drop m).Perm (v :: P) := by
      have := @List.perm_middle _ v (P.take m) (P.drop m)
      rwa [List.take_append_drop] at this
    have p2 : (P ++ v :: rest).Perm (v :: (P ++ rest)) := List.perm_middle
    exact (p1.append_right rest).trans p2.symm

/-! ### Rising lists -/
theorem Rising.of_sorted {gt : α → α → Bool} (O : Order gt) {l : List α} (h : Sorted gt l) (hn : l.Nodup) : Rising gt l := by
  refine List.Pairwise.imp_of_mem (R := fun x y => gt x y = false ∧ x ≠ y) ?_ (List.pairwise_and_iff.2 ⟨h, hn⟩)
  rintro a b _ _ ⟨h1, h2⟩
  cases h3 : gt b a
  · exact absurd (O.anti a b h1 h3) h2
  · rfl

theorem Rising.same {gt : α → α → Bool} (O : Order gt) {l l' : List α} (h : Rising gt l) (h' : Rising gt l') (hm : ∀ x, x ∈ l ↔ x ∈ l') : l = l' := by
  have nd : ∀ {k : List α}, Rising gt k → k.Nodup := fun {k} hk => List.Pairwise.imp_of_mem (fun {a b} _ _ hab e => by rw [e, O.self b] at hab; cases hab) hk
  have p : l.Perm l' := (List.perm_ext_iff_of_nodup (nd h) (nd h')).2 hm
  refine List.Perm.eq_of_pairwise (le := fun a b => gt b a = true) (fun a b _ _ h1 h2 => ?_) h h' p
  exact absurd (O.asymm _ _ h1) (by rw [h2]; simp)

/-! ### A sorted list without its repeats, round by round -/
variable [DecidableEq α]

/-- What the loop 'if i == 0 || own[i] != own[i-1] { want = append(want, own[i]) }' has gathered behind k rounds (z: whatever stands outside the list). -/
def wantTo (z : α) (ts : List α) : Nat → List α
  | 0 => []
  | k + 1 => if k = 0 ∨ ts.getD k z ≠ ts.getD (k - 1) z then wantTo z ts k ++ [ts.getD k z] else wantTo z ts k

theorem wantTo_le (z : α) (ts : List α) : ∀ k, (wantTo z ts k).length ≤ k
  | 0 => by simp [wantTo]
  | k + 1 => by
    have := wantTo_le z ts k
    unfold wantTo
    split <;> simp <;> omega

theorem wantTo_yes (z : α) (ts : List α) (k : Nat) (h : k = 0 ∨ ts.getD k z ≠ ts.getD (k - 1) z) : wantTo z ts (k + 1) = wantTo z ts k ++ [ts.getD k z] := by
  rw [wantTo, if_pos h]

theorem wantTo_no (z : α) (ts : List α) (k : Nat) (h0 : k ≠ 0) (h : ts.getD k z = ts.getD (k - 1) z) : wantTo z ts (k + 1) = wantTo z ts k := by
  rw [wantTo, if_neg]
  rintro (h' | h')
  · exact h0 h'
  · exact h' h

theorem mem_wantTo (z : α) (ts : List α) (x : α) : ∀ k, k ≤ ts.length → (x ∈ wantTo z ts k ↔ x ∈ ts.take k)
  | 0, _ => by simp [wantTo]
  | k + 1, hk => by
    have ih := mem_wantTo z ts x k (by omega)
    have e1 : ts.getD k z = ts[k] := by simp [show k < ts.length by omega]
    rw [List.take_succ_eq_append_getElem (by omega), List.mem_append, ← ih, ← e1]
    by_cases h : k = 0 ∨ ts.getD k z ≠ ts.getD (k - 1) z
    · rw [wantTo_yes z ts k h, List.mem_append]
    · have h0 : k ≠ 0 := fun e => h (.inl e)
      have h1 : ts.getD k z = ts.getD (k - 1) z := Classical.byContradiction (fun e => h (.inr e))
      rw [wantTo_no z ts k h0 h1]
      constructor
      · exact .inl
      · rintro (h2 | h2)
        · exact h2
        · rw [ih]
          rw [List.mem_singleton] at h2
          rw [h2, h1]
          have : ts.getD (k - 1) z = (ts.take k)[k - 1]'(by simp; omega) := by simp [show k - 1 < ts.length by omega]
          rw [this]
          exact List.getElem_mem _

theorem rising_wantTo {gt : α → α → Bool} (O : Order gt) (z : α) {ts : List α} (hs : Sorted gt ts) : ∀ k, k ≤ ts.length → Rising gt (wantTo z ts k)
  | 0, _ => by simp [wantTo, Rising]
  | k + 1, hk => by
    have ih := rising_wantTo O z hs k (by omega)
    by_cases h : k = 0 ∨ ts.getD k z ≠ ts.getD (k - 1) z
    · rw [wantTo_yes z ts k h]
      refine List.pairwise_append.2 ⟨ih, by simp, ?_⟩
      intro a ha b hb
      rw [List.mem_singleton] at hb
      subst hb
      rcases h with rfl | h
      · simp [wantTo] at ha
      · have hk0 : k ≠ 0 := by
          intro e
          subst e
          simp at h
        have e1 : ts.getD k z = ts[k] := by simp [show k < ts.length by omega]
        have e2 : ts.getD (k - 1) z = ts[k - 1]'(by omega) := by simp [show k - 1 < ts.length by omega]
        have hst : gt (ts[k - 1]'(by omega)) ts[k] = false := List.pairwise_iff_getElem.1 hs (k - 1) k (by omega) (by omega) (by omega)
        have hge : gt ts[k] (ts[k - 1]'(by omega)) = true := by
          cases h3 : gt ts[k] (ts[k - 1]'(by omega))
          · exact absurd (O.anti _ _ h3 hst) (by rw [← e1, ← e2]; exact h)
          · rfl
        have hat := (mem_wantTo z ts a k (by omega)).1 ha
        obtain ⟨i, hi, rfl⟩ := List.getElem_of_mem hat
        have hi' : i < k := by simp at hi; omega
        rw [List.getElem_take, e1]
        by_cases hik : i = k - 1
        · subst hik
          exact hge
        · have h4 : gt ts[i] (ts[k - 1]'(by omega)) = false := List.pairwise_iff_getElem.1 hs i (k - 1) (by omega) (by omega) (by omega)
          cases h5 : gt ts[k] ts[i]
          · have := O.trans _ _ _ h5 h4
            rw [hge] at this
            cases this
          · rfl
    · have h0 : k ≠ 0 := fun e => h (.inl e)
      have h1 : ts.getD k z = ts.getD (k - 1) z := Classical.byContradiction (fun e => h (.inr e))
      rw [wantTo_no z ts k h0 h1]
      exact ih

/-- THE LAW OF THE KEYS: 'got' a sorted list of the distinct members of ss, 'own' ss sorted: got is own without its repeats. -/
theorem keys_law {gt : α → α → Bool} (O : Order gt) (z : α) {ss own got ks : List α} (ho : own.Perm ss) (hs : Sorted gt own) (hk : ks.Nodup) (hm : ∀ x, x ∈ ks ↔ x ∈ ss) (hg : got.Perm ks) (hgs : Sorted gt got) :
    got = wantTo z own own.length := by
  refine Rising.same O (Rising.of_sorted O hgs (hg.nodup_iff.2 hk)) (rising_wantTo O z hs _ (Nat.le_refl _)) (fun x => ?_)
  rw [mem_wantTo z own x _ (Nat.le_refl _), List.take_length, hg.mem_iff, hm x, ho.mem_iff]

end

/-! ### The two orders -/
def gtS (x y : List UInt8) : Bool := decide (y < x)
theorem orderS : Order gtS where
  trans a b c h1 h2 := by
    simp only [gtS, decide_eq_false_iff_not, List.not_lt] at *
    exact List.le_trans h1 h2
  asymm a b h := by
    simp only [gtS, decide_eq_true_eq, decide_eq_false_iff_not, List.not_lt] at *
    exact List.le_of_lt h
  anti a b h1 h2 := by
    simp only [gtS, decide_eq_false_iff_not, List.not_lt] at *
    exact List.le_antisymm h1 h2

def gtI (x y : Int) : Bool := decide (y < x)
theorem orderI : Order gtI where
  trans a b c h1 h2 := by simp only [gtI, decide_eq_false_iff_not] at *; omega
  asymm a b h := by simp only [gtI, decide_eq_true_eq, decide_eq_false_iff_not] at *; omega
  anti a b h1 h2 := by simp only [gtI, decide_eq_false_iff_not] at *; omega

end Go.Proofs.Youafw
