import Derived.Test.Qxb6608527aTime
/-! THE PLAIN LAW: folding 'earl' (the earlier of two instants, 0 standing for none). -/
namespace Go.Proofs.Qxb6608527a.Tm

theorem earl_zero_left (a : Int) : earl 0 a = a := by simp [earl]
theorem earl_zero_right (a : Int) : earl a 0 = a := by
  unfold earl
  split <;> simp_all
theorem earl_comm (a b : Int) : earl a b = earl b a := by
  unfold earl
  repeat' split
  all_goals omega
theorem earl_assoc (a b c : Int) : earl (earl a b) c = earl a (earl b c) := by
  unfold earl
  by_cases ha : a = 0
  · simp [ha]
  · by_cases hb : b = 0
    · simp [ha, hb]
    · by_cases hc : c = 0
      · by_cases h1 : b < a <;> simp [ha, hb, hc, h1]
      · by_cases h1 : b < a <;> by_cases h2 : c < b <;> by_cases h3 : c < a <;> simp [ha, hb, hc, h1, h2, h3] <;> omega

/-- The earliest of a list. -/
def least (l : List Int) : Int := l.foldr earl 0

theorem foldl_earl (l : List Int) : ∀ a, l.foldl earl a = earl a (least l) := by
  induction l with
  | nil => intro a; simp [least, earl_zero_right]
  | cons x l ih =>
    intro a
    rw [List.foldl_cons, ih]
    show earl (earl a x) (least l) = earl a (earl x (least l))
    exact earl_assoc _ _ _

theorem foldl_zero (l : List Int) : l.foldl earl 0 = least l := by rw [foldl_earl, earl_zero_left]

theorem least_snoc (l : List Int) (x : Int) : least (l ++ [x]) = earl (least l) x := by
  rw [← foldl_zero, List.foldl_append, foldl_zero]
  rfl

theorem earl_le (a b : Int) (hb : b ≠ 0) : earl a b ≤ b ∧ earl a b ≠ 0 := by
  unfold earl
  repeat' split
  all_goals omega
theorem earl_le' (a b : Int) (ha : a ≠ 0) : earl a b ≤ a ∧ earl a b ≠ 0 := by
  rw [earl_comm]
  exact earl_le b a ha

theorem least_le (l : List Int) : ∀ x ∈ l, x ≠ 0 → least l ≤ x ∧ least l ≠ 0 := by
  induction l with
  | nil => intro x hx; cases hx
  | cons y l ih =>
    intro x hx h0
    show earl y (least l) ≤ x ∧ earl y (least l) ≠ 0
    rcases List.mem_cons.1 hx with rfl | hx
    · exact earl_le' _ _ h0
    · obtain ⟨h1, h2⟩ := ih x hx h0
      have := earl_le y (least l) h2
      exact ⟨by omega, this.2⟩

theorem least_mem (l : List Int) (h : least l ≠ 0) : least l ∈ l := by
  induction l with
  | nil => exact absurd rfl h
  | cons y l ih =>
    have e : least (y :: l) = y ∨ least (y :: l) = least l := by
      show earl y (least l) = y ∨ earl y (least l) = least l
      unfold earl
      repeat' split
      all_goals simp_all
    rcases e with e | e
    · rw [e]
      exact List.mem_cons_self
    · rw [e] at h ⊢
      exact List.mem_cons_of_mem _ (ih h)

theorem least_zero (l : List Int) (h : ∀ x ∈ l, x = 0) : least l = 0 := by
  by_cases h0 : least l = 0
  · exact h0
  · exact absurd (h _ (least_mem l h0)) h0

def InRange (x : Int) : Prop := -9223372036854775808 ≤ x ∧ x ≤ 9223372036854775807

theorem least_range (l : List Int) (h : ∀ x ∈ l, InRange x) : InRange (least l) := by
  by_cases h0 : least l = 0
  · rw [h0]
    exact ⟨by omega, by omega⟩
  · exact h _ (least_mem l h0)

theorem least_append (l r : List Int) : least (l ++ r) = earl (least l) (least r) := by
  rw [← foldl_zero, List.foldl_append, foldl_zero, foldl_earl]

/-! What the loops have seen after k rounds -/
def anyNZ (l : List Int) : Bool := l.any fun x => x != 0
def anyEq (l : List Int) (m : Int) : Bool := l.any fun x => x == m
def anyNZEq (l : List Int) (m : Int) : Bool := l.any fun x => x != 0 && x == m

theorem take_snoc (l : List Int) (k : Nat) (h : k < l.length) : l.take (k + 1) = l.take k ++ [l[k]] := List.take_succ_eq_append_getElem h

theorem anyNZ_snoc (l : List Int) (k : Nat) (h : k < l.length) : anyNZ (l.take (k + 1)) = (anyNZ (l.take k) || l[k] != 0) := by rw [take_snoc l k h]; simp only [anyNZ, List.any_append, List.any_cons, List.any_nil, Bool.or_false]
theorem anyEq_snoc (l : List Int) (m : Int) (k : Nat) (h : k < l.length) : anyEq (l.take (k + 1)) m = (anyEq (l.take k) m || l[k] == m) := by rw [take_snoc l k h]; simp only [anyEq, List.any_append, List.any_cons, List.any_nil, Bool.or_false]
theorem anyNZEq_snoc (l : List Int) (m : Int) (k : Nat) (h : k < l.length) : anyNZEq (l.take (k + 1)) m = (anyNZEq (l.take k) m || (l[k] != 0 && l[k] == m)) := by rw [take_snoc l k h]; simp only [anyNZEq, List.any_append, List.any_cons, List.any_nil, Bool.or_false]

/-- Nothing but zeros: the least is zero. -/
theorem of_none (l : List Int) (h : anyNZ l = false) : least l = 0 := by
  apply least_zero
  intro x hx
  simp only [anyNZ, List.any_eq_false, bne_iff_ne, ne_eq, Decidable.not_not] at h
  exact h x hx

/-- Something else: the least is among them, and is not zero. -/
theorem of_some (l : List Int) (h : anyNZ l = true) : least l ≠ 0 ∧ least l ∈ l := by
  simp only [anyNZ, List.any_eq_true, bne_iff_ne, ne_eq] at h
  obtain ⟨x, hx, h0⟩ := h
  have h1 := (least_le l x hx h0).2
  exact ⟨h1, least_mem l h1⟩

theorem found_of_some (l : List Int) (h : anyNZ l = true) : anyNZEq l (least l) = true := by
  obtain ⟨h1, h2⟩ := of_some l h
  simp only [anyNZEq, List.any_eq_true]
  exact ⟨_, h2, by simp [h1]⟩

theorem member_of_some (l : List Int) (h : anyNZ l = true) : anyEq l (least l) = true := by
  obtain ⟨h1, h2⟩ := of_some l h
  simp only [anyEq, List.any_eq_true]
  exact ⟨_, h2, by simp⟩

theorem anyNZ_append (l r : List Int) : anyNZ (l ++ r) = (anyNZ l || anyNZ r) := by simp [anyNZ]
theorem anyEq_append (l r : List Int) (m : Int) : anyEq (l ++ r) m = (anyEq l m || anyEq r m) := by simp [anyEq]

end Go.Proofs.Qxb6608527a.Tm
