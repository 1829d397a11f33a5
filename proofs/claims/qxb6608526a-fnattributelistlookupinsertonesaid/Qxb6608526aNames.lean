import Derived.Lib.Bytealg
/-!
  THE PLAIN LAW OF THE TWO LOOKUP STATEMENTS: names (prefix, local) in their order; a strictly increasing list; what a binary search in it comes to. No Go in sight.
-/
namespace Go.Proofs.Qxb6608526a.Names
open Go.Lib (compareBytes)

theorem cb_refl : ∀ a : List UInt8, compareBytes a a = 0
  | [] => rfl
  | a :: as => by simp [compareBytes, UInt8.lt_irrefl, cb_refl as]

theorem cb_anti : ∀ a b : List UInt8, compareBytes b a = - compareBytes a b
  | [], [] => rfl
  | [], _ :: _ => rfl
  | _ :: _, [] => rfl
  | a :: as, b :: bs => by
    simp only [compareBytes]
    by_cases h1 : a < b
    · have h2 : ¬ b < a := fun h => UInt8.lt_asymm h1 h
      simp [h1, h2]
    · by_cases h2 : b < a
      · simp [h1, h2]
      · simp [h1, h2, cb_anti as bs]

theorem cb_zero : ∀ a b : List UInt8, compareBytes a b = 0 → a = b
  | [], [], _ => rfl
  | [], _ :: _, h => by simp [compareBytes] at h
  | _ :: _, [], h => by simp [compareBytes] at h
  | a :: as, b :: bs, h => by
    simp only [compareBytes] at h
    by_cases h1 : a < b
    · simp [h1] at h
    · by_cases h2 : b < a
      · simp [h1, h2] at h
      · simp only [h1, h2, if_false] at h
        have e : a = b := UInt8.le_antisymm (UInt8.not_lt.1 h2) (UInt8.not_lt.1 h1)
        rw [e, cb_zero as bs h]

theorem cb_range : ∀ a b : List UInt8, compareBytes a b = -1 ∨ compareBytes a b = 0 ∨ compareBytes a b = 1
  | [], [] => .inr (.inl rfl)
  | [], _ :: _ => .inl rfl
  | _ :: _, [] => .inr (.inr rfl)
  | a :: as, b :: bs => by
    simp only [compareBytes]
    by_cases h1 : a < b
    · simp [h1]
    · by_cases h2 : b < a
      · simp [h1, h2]
      · simpa [h1, h2] using cb_range as bs

theorem cb_trans : ∀ a b c : List UInt8, compareBytes a b < 0 → compareBytes b c < 0 → compareBytes a c < 0
  | [], [], _, h, _ => by simp [compareBytes] at h
  | [], _ :: _, [], _, h => by simp [compareBytes] at h
  | [], _ :: _, _ :: _, _, _ => by simp [compareBytes]
  | _ :: _, [], _, h, _ => by simp [compareBytes] at h
  | _ :: _, _ :: _, [], _, h => by simp [compareBytes] at h
  | a :: as, b :: bs, c :: cs, h, k => by
    simp only [compareBytes] at h k ⊢
    by_cases h1 : a < b
    · by_cases k1 : b < c
      · simp [UInt8.lt_trans h1 k1]
      · by_cases k2 : c < b
        · simp [k1, k2] at k
        · have e : b = c := UInt8.le_antisymm (UInt8.not_lt.1 k2) (UInt8.not_lt.1 k1)
          subst e
          simp [h1]
    · by_cases h2 : b < a
      · simp [h1, h2] at h
      · have e : a = b := UInt8.le_antisymm (UInt8.not_lt.1 h2) (UInt8.not_lt.1 h1)
        subst e
        simp only [h1, if_false] at h
        by_cases k1 : a < c
        · simp [k1]
        · by_cases k2 : c < a
          · simp [k1, k2] at k
          · simp only [k1, k2, if_false] at k ⊢
            exact cb_trans as bs cs h k

/-- A string's bytes against another's. -/
def cmpS (a b : ByteArray) : Int := compareBytes a.data.toList b.data.toList
theorem cmpS_refl (a : ByteArray) : cmpS a a = 0 := cb_refl _
theorem cmpS_anti (a b : ByteArray) : cmpS b a = - cmpS a b := cb_anti _ _
theorem cmpS_zero {a b : ByteArray} (h : cmpS a b = 0) : a = b := by
  have := cb_zero _ _ h
  exact ByteArray.ext (Array.toList_inj.1 this)
theorem cmpS_trans {a b c : ByteArray} (h : cmpS a b < 0) (k : cmpS b c < 0) : cmpS a c < 0 := cb_trans _ _ _ h k
theorem cmpS_range (a b : ByteArray) : -1 ≤ cmpS a b ∧ cmpS a b ≤ 1 := by
  have := cb_range a.data.toList b.data.toList
  unfold cmpS
  omega

/-- Names in their order: by prefix, then by local name. -/
def cmpN (a b : ByteArray × ByteArray) : Int := if cmpS a.1 b.1 = 0 then cmpS a.2 b.2 else cmpS a.1 b.1
theorem cmpN_range (a b : ByteArray × ByteArray) : -1 ≤ cmpN a b ∧ cmpN a b ≤ 1 := by
  unfold cmpN
  split
  · exact cmpS_range _ _
  · exact cmpS_range _ _
theorem cmpN_refl (a : ByteArray × ByteArray) : cmpN a a = 0 := by simp [cmpN, cmpS_refl]
theorem cmpN_zero {a b : ByteArray × ByteArray} (h : cmpN a b = 0) : a = b := by
  unfold cmpN at h
  split at h
  · rename_i h1
    exact Prod.ext (cmpS_zero h1) (cmpS_zero h)
  · rename_i h1
    exact absurd h h1
theorem cmpN_anti (a b : ByteArray × ByteArray) : cmpN b a = - cmpN a b := by
  unfold cmpN
  rw [cmpS_anti a.1 b.1, cmpS_anti a.2 b.2]
  by_cases h : cmpS a.1 b.1 = 0
  · rw [if_pos h, if_pos (by omega)]
  · rw [if_neg h, if_neg (by omega)]
theorem cmpN_trans {a b c : ByteArray × ByteArray} (h : cmpN a b < 0) (k : cmpN b c < 0) : cmpN a c < 0 := by
  unfold cmpN at h k ⊢
  by_cases h1 : cmpS a.1 b.1 = 0
  · rw [if_pos h1] at h
    rw [cmpS_zero h1]
    by_cases k1 : cmpS b.1 c.1 = 0
    · rw [if_pos k1] at k ⊢
      exact cmpS_trans h k
    · rw [if_neg k1] at k ⊢
      exact k
  · rw [if_neg h1] at h
    by_cases k1 : cmpS b.1 c.1 = 0
    · rw [← cmpS_zero k1, if_neg h1]
      exact h
    · rw [if_neg k1] at k
      have := cmpS_trans h k
      rw [if_neg (by omega)]
      exact this

/-- A strictly increasing list of names. -/
def Sorted (l : List (ByteArray × ByteArray)) : Prop := l.Pairwise fun a b => cmpN a b < 0

theorem Sorted.lt {l : List (ByteArray × ByteArray)} (h : Sorted l) {i j : Nat} (hij : i < j) (hj : j < l.length) : cmpN (l[i]'(by omega)) l[j] < 0 := List.pairwise_iff_getElem.1 h i j (by omega) hj hij

/-- Each is less than its next: so the list increases. -/
theorem sorted_of_next {l : List (ByteArray × ByteArray)} (h : ∀ i (hi : i + 1 < l.length), cmpN (l[i]'(by omega)) l[i + 1] < 0) : Sorted l := by
  refine List.pairwise_iff_getElem.2 fun i j hi hj hij => ?_
  obtain ⟨k, rfl⟩ : ∃ k, j = i + 1 + k := ⟨j - (i + 1), by omega⟩
  clear hij
  induction k with
  | zero => exact h i hj
  | succ k ih => exact cmpN_trans (ih (by omega)) (h (i + 1 + k) hj)

/-- A name is met once. -/
theorem Sorted.inj {l : List (ByteArray × ByteArray)} (h : Sorted l) {i j : Nat} (hi : i < l.length) (hj : j < l.length) (e : l[i] = l[j]) : i = j := by
  rcases Nat.lt_trichotomy i j with hlt | rfl | hlt
  · have := h.lt hlt hj
    rw [e, cmpN_refl] at this
    omega
  · rfl
  · have := h.lt hlt hi
    rw [e, cmpN_refl] at this
    omega

/-- THE SEARCH's END: all below i are less than q, none from i on is: q is listed just where it stands at i. -/
theorem search_end {l : List (ByteArray × ByteArray)} (h : Sorted l) (q : ByteArray × ByteArray) (i : Nat)
    (lo : ∀ k (hk : k < l.length), k < i → cmpN l[k] q < 0) (hi : ∀ k (hk : k < l.length), i ≤ k → 0 ≤ cmpN l[k] q) :
    q ∈ l ↔ ∃ hi : i < l.length, cmpN l[i] q = 0 := by
  constructor
  · intro hq
    obtain ⟨k, hk, e⟩ := List.getElem_of_mem hq
    have hki : i ≤ k := by
      rcases Nat.lt_or_ge k i with hlt | hge
      · have := lo k hk hlt
        rw [e, cmpN_refl] at this
        omega
      · exact hge
    rcases Nat.lt_or_ge i k with hlt | hge
    · have h1 := hi i (by omega) (Nat.le_refl _)
      have h2 := h.lt hlt hk
      rw [e] at h2
      omega
    · obtain rfl : i = k := by omega
      exact ⟨hk, by rw [e, cmpN_refl]⟩
  · rintro ⟨hl, e⟩
    rw [← cmpN_zero e]
    exact List.getElem_mem hl

/-- A round of the search that goes up. -/
theorem search_up {l : List (ByteArray × ByteArray)} (h : Sorted l) (q : ByteArray × ByteArray) (m : Nat) (hm : m < l.length) (hc : cmpN l[m] q < 0) :
    ∀ k (hk : k < l.length), k < m + 1 → cmpN l[k] q < 0 := by
  intro k hk hkm
  rcases Nat.lt_or_ge k m with hlt | hge
  · exact cmpN_trans (h.lt hlt hm) hc
  · obtain rfl : k = m := by omega
    exact hc

/-- A round of the search that goes down. -/
theorem search_down {l : List (ByteArray × ByteArray)} (h : Sorted l) (q : ByteArray × ByteArray) (m : Nat) (hm : m < l.length) (hc : 0 ≤ cmpN l[m] q) :
    ∀ k (hk : k < l.length), m ≤ k → 0 ≤ cmpN l[k] q := by
  intro k hk hkm
  rcases Nat.lt_or_ge m k with hlt | hge
  · have h1 := h.lt hlt hk
    rcases (show cmpN l[k] q < 0 ∨ 0 ≤ cmpN l[k] q by omega) with h2 | h2
    · have := cmpN_trans h1 h2
      omega
    · exact h2
  · obtain rfl : k = m := by omega
    exact hc


/-! ### The comparison byte by byte -/
theorem cb_take : ∀ (k : Nat) (a b : List UInt8), a.take k = b.take k → k ≤ a.length → k ≤ b.length → compareBytes a b = compareBytes (a.drop k) (b.drop k)
  | 0, _, _, _, _, _ => rfl
  | _ + 1, [], _, _, h, _ => by simp at h
  | _ + 1, _ :: _, [], _, _, h => by simp at h
  | k + 1, a :: as, b :: bs, h, ha, hb => by
    simp only [List.take_succ_cons, List.cons.injEq] at h
    obtain ⟨rfl, h⟩ := h
    simp only [compareBytes, UInt8.lt_irrefl, if_false, List.drop_succ_cons]
    exact cb_take k as bs h (by simpa using ha) (by simpa using hb)

/-- The first k bytes of the two strings are the same. -/
def Same (a b : ByteArray) (k : Nat) : Prop := a.data.toList.take k = b.data.toList.take k
theorem same_zero (a b : ByteArray) : Same a b 0 := rfl

theorem length_bytes (a : ByteArray) : a.data.toList.length = a.size := by simp

theorem drop_at (a : ByteArray) (k : Nat) (h : k < a.size) : a.data.toList.drop k = a[k] :: a.data.toList.drop (k + 1) := by
  rw [List.drop_eq_getElem_cons (by simpa using h)]
  rfl

theorem cmpS_lt {a b : ByteArray} {k : Nat} (ha : k < a.size) (hb : k < b.size) (h : Same a b k) (hlt : (a[k].toNat : Int) < (b[k].toNat : Int)) : cmpS a b = -1 := by
  unfold cmpS
  rw [cb_take k _ _ h (by rw [length_bytes]; omega) (by rw [length_bytes]; omega), drop_at a k ha, drop_at b k hb]
  have : a[k] < b[k] := UInt8.lt_iff_toNat_lt.2 (by omega)
  simp [compareBytes, this]

theorem cmpS_gt {a b : ByteArray} {k : Nat} (ha : k < a.size) (hb : k < b.size) (h : Same a b k) (hgt : (b[k].toNat : Int) < (a[k].toNat : Int)) : cmpS a b = 1 := by
  unfold cmpS
  rw [cb_take k _ _ h (by rw [length_bytes]; omega) (by rw [length_bytes]; omega), drop_at a k ha, drop_at b k hb]
  have h1 : ¬ a[k] < b[k] := fun e => by have := UInt8.lt_iff_toNat_lt.1 e; omega
  have h2 : b[k] < a[k] := UInt8.lt_iff_toNat_lt.2 (by omega)
  simp [compareBytes, h1, h2]

theorem same_succ {a b : ByteArray} {k : Nat} (ha : k < a.size) (hb : k < b.size) (h : Same a b k) (h1 : ¬ (a[k].toNat : Int) < (b[k].toNat : Int)) (h2 : ¬ (b[k].toNat : Int) < (a[k].toNat : Int)) : Same a b (k + 1) := by
  have e : a[k] = b[k] := UInt8.toNat_inj.1 (by omega)
  have e' : a.data.toList[k]'(by simpa using ha) = b.data.toList[k]'(by simpa using hb) := e
  unfold Same at h ⊢
  rw [List.take_succ_eq_append_getElem (by simpa using ha), List.take_succ_eq_append_getElem (by simpa using hb), h, e']

/-- All bytes up to the shorter's end are the same: the lengths decide. -/
theorem cmpS_end {a b : ByteArray} {k : Nat} (hk : k = min a.size b.size) (h : Same a b k) : cmpS a b = if a.size < b.size then -1 else if b.size < a.size then 1 else 0 := by
  have hla := length_bytes a
  have hlb := length_bytes b
  unfold cmpS
  rw [cb_take k _ _ h (by omega) (by omega)]
  rcases Nat.lt_trichotomy a.size b.size with h1 | h1 | h1
  · rw [if_pos h1, List.drop_of_length_le (by omega), List.drop_eq_getElem_cons (l := b.data.toList) (by omega)]
    rfl
  · rw [if_neg (by omega), if_neg (by omega), List.drop_of_length_le (by omega), List.drop_of_length_le (by omega)]
    rfl
  · rw [if_neg (by omega), if_pos h1, List.drop_of_length_le (l := b.data.toList) (by omega), List.drop_eq_getElem_cons (by omega)]
    rfl

end Go.Proofs.Qxb6608526a.Names
