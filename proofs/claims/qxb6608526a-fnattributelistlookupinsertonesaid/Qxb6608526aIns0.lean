import Derived.Test.Qxb6608526aAttr4
import Derived.Outline
namespace Go.Proofs.Qxb6608526a.Attr
open Go.RowKit Names
set_option linter.unusedVariables false

theorem info9 : (Try.prog.info? 9).map (fun i => (i.zero, i.size, i.bytes)) = some (some (.string ByteArray.empty), 1, 16) := by kernel_rfl
theorem size9 : (Try.prog.info? 9).map (·.size) = some 1 := by kernel_rfl

theorem strs_src {w : World} {a : Addr} {n c : Nat} {ss : List ByteArray} (hs : Strs w (some a) n c ss) (h : 0 < (ss.map Value.string).length) : ∃ ad, (some a : Option Addr) = some ad ∧ ∀ j v, (ss.map Value.string)[j]? = some v → w.cell? (ad.add j) = some v := by
  obtain ⟨b, off, e, _, hc⟩ := hs.at (by rw [← hs.1]; simpa using h)
  refine ⟨⟨b, off, none⟩, e, fun j v hv => ?_⟩
  rw [List.getElem?_map] at hv
  obtain ⟨s, hs', rfl⟩ := Option.map_eq_some_iff.1 hv
  obtain ⟨hj, rfl⟩ := List.getElem?_eq_some_iff.1 hs'
  rw [Addr.add_lit]
  exact hc j hj

/-- Behind the copy: our own row of the same strings. -/
theorem own_of_row {w : World} {d n : Nat} {ss : List ByteArray} {cur : List Value} (hn : ss.length = n) (hcur : cur.length = n) (h : w.heap[d]? = some (.cells (splice cur 0 (ss.map Value.string)).toArray 9 (0, 0))) : Own w (some ⟨d, 0, none⟩) n ss := by
  have e : splice cur 0 (ss.map Value.string) = ss.map Value.string := by simp [splice, hcur, hn]
  rw [e] at h
  refine ⟨⟨hn, Nat.le_refl _, .inr ⟨d, 0, rfl, fun j hj => ?_⟩⟩, .inr ⟨d, rfl⟩⟩
  rw [cell_of_row w d (0 + j) _ 9 (0, 0) h]
  simp [hj]

theorem made_row {w : World} {base e d n : Nat} {xs : List Value} (h : w.ownsRow base e 1 (.slice (some ⟨d, 0, none⟩) n n) n xs) : ∃ cur : List Value, w.heap[d]? = some (.cells cur.toArray e (0, 0)) ∧ cur.length = n := by
  rcases h.2 with ⟨h, _⟩ | ⟨g', c', cur, h, _, hh, _, _, hsz, _⟩
  · cases h
  · simp only [Value.slice.injEq, Option.some.injEq, Addr.mk.injEq] at h
    obtain ⟨⟨rfl, _⟩, _, rfl⟩ := h
    exact ⟨cur.toList, by simpa using hh, by simpa using hsz⟩

theorem own_nil {w : World} {ss : List ByteArray} (h : ss.length = 0) : Own w none 0 ss := ⟨⟨h, Nat.le_refl _, .inl ⟨rfl, fun _ => rfl⟩⟩, .inl ⟨rfl, rfl⟩⟩

theorem one_strings (ss : List ByteArray) : ∀ v ∈ ss.map Value.string, v.oneCell' = true := by
  intro v hv
  obtain ⟨_, _, rfl⟩ := List.mem_map.1 hv
  rfl

theorem Sorted.take {l : List (ByteArray × ByteArray)} (h : Sorted l) (k : Nat) : Sorted (l.take k) := List.Pairwise.sublist (List.take_sublist k l) h
theorem Sorted.drop {l : List (ByteArray × ByteArray)} (h : Sorted l) (k : Nat) : Sorted (l.drop k) := List.Pairwise.sublist (List.drop_sublist k l) h
theorem mem_split {l : List (ByteArray × ByteArray)} (k : Nat) (q : ByteArray × ByteArray) : q ∈ l ↔ q ∈ l.take k ∨ q ∈ l.drop k := by
  rw [← List.mem_append, List.take_append_drop]
theorem Sorted.not_both {l : List (ByteArray × ByteArray)} (h : Sorted l) (k : Nat) (q : ByteArray × ByteArray) (h1 : q ∈ l.take k) (h2 : q ∈ l.drop k) : False := by
  have := h
  unfold Sorted at this
  rw [← List.take_append_drop k l, List.pairwise_append] at this
  have h3 := this.2.2 q h1 q h2
  rw [cmpN_refl] at h3
  omega

theorem below_drewN' (w : World) (q : Nat) : Below w.heap.size w (w.drewN q) := ⟨rfl, rfl, rfl, Nat.le_refl _, fun _ _ => rfl⟩

theorem zip_take (ss ls : List ByteArray) (N : Nat) : (ss.take N).zip (ls.take N) = (ss.zip ls).take N := by
  simp [List.zip, List.take_zipWith]

theorem zip_drop (ss ls : List ByteArray) (N C : Nat) : ((ss.take N).drop C).zip ((ls.take N).drop C) = ((ss.zip ls).take N).drop C := by
  simp [List.zip, List.take_zipWith, List.drop_zipWith]


/-! ### A name put in at a place where it fits: the plain law -/
def insAt (l : List (ByteArray × ByteArray)) (K : Nat) (x : ByteArray × ByteArray) : List (ByteArray × ByteArray) := l.take K ++ x :: l.drop K

structure Fits (l : List (ByteArray × ByteArray)) (K : Nat) (x : ByteArray × ByteArray) : Prop where
  left : ∀ j (h : j + 1 = K) (hj : j < l.length), cmpN l[j] x < 0
  right : ∀ (h : K < l.length), cmpN x l[K] < 0

theorem Fits.before {l : List (ByteArray × ByteArray)} {K : Nat} {x : ByteArray × ByteArray} (h : Fits l K x) (hs : Sorted l) (hK : K ≤ l.length) : ∀ a ∈ l.take K, cmpN a x < 0 := by
  intro a ha
  obtain ⟨i, hi, rfl⟩ := List.getElem_of_mem ha
  simp only [List.length_take] at hi
  rw [List.getElem_take]
  obtain ⟨j, rfl⟩ : ∃ j, K = j + 1 := ⟨K - 1, by omega⟩
  have h1 := h.left j rfl (by omega)
  rcases Nat.lt_or_ge i j with hlt | hge
  · exact cmpN_trans (hs.lt hlt (by omega)) h1
  · obtain rfl : i = j := by omega
    exact h1

theorem Fits.after {l : List (ByteArray × ByteArray)} {K : Nat} {x : ByteArray × ByteArray} (h : Fits l K x) (hs : Sorted l) : ∀ a ∈ l.drop K, cmpN x a < 0 := by
  intro a ha
  obtain ⟨i, hi, rfl⟩ := List.getElem_of_mem ha
  simp only [List.length_drop] at hi
  rw [List.getElem_drop]
  have h1 := h.right (by omega)
  rcases Nat.eq_zero_or_pos i with h0 | h0
  · subst h0
    simpa using h1
  · exact cmpN_trans h1 (hs.lt (i := K) (j := K + i) (by omega) (by omega))

theorem Fits.sorted {l : List (ByteArray × ByteArray)} {K : Nat} {x : ByteArray × ByteArray} (h : Fits l K x) (hs : Sorted l) (hK : K ≤ l.length) : Sorted (insAt l K x) := by
  have h0 := hs
  unfold Sorted at h0
  rw [← List.take_append_drop K l, List.pairwise_append] at h0
  unfold insAt Sorted
  rw [List.pairwise_append, List.pairwise_cons]
  refine ⟨h0.1, ⟨h.after hs, h0.2.1⟩, fun a ha b hb => ?_⟩
  rcases List.mem_cons.1 hb with rfl | hb
  · exact h.before hs hK a ha
  · exact h0.2.2 a ha b hb

theorem Fits.not_mem {l : List (ByteArray × ByteArray)} {K : Nat} {x : ByteArray × ByteArray} (h : Fits l K x) (hs : Sorted l) (hK : K ≤ l.length) : x ∉ l := by
  intro hx
  rcases (mem_split K x).1 hx with h1 | h1
  · have := h.before hs hK x h1
    rw [cmpN_refl] at this
    omega
  · have := h.after hs x h1
    rw [cmpN_refl] at this
    omega

theorem mem_insAt {l : List (ByteArray × ByteArray)} {K : Nat} {x q : ByteArray × ByteArray} : q ∈ insAt l K x ↔ q = x ∨ q ∈ l := by
  unfold insAt
  rw [List.mem_append, List.mem_cons, mem_split (l := l) K q]
  constructor
  · rintro (h | h | h)
    · exact .inr (.inl h)
    · exact .inl h
    · exact .inr (.inr h)
  · rintro (h | h | h)
    · exact .inr (.inl h)
    · exact .inl h
    · exact .inr (.inr h)

/-! ### The widened slices -/
/-- The first N strings with x put in at place K. -/
def wide (ss : List ByteArray) (N K : Nat) (x : ByteArray) : List ByteArray := (ss.take N).take K ++ x :: (ss.take N).drop K

theorem wide_length {ss : List ByteArray} {N K : Nat} {x : ByteArray} (hN : N ≤ ss.length) (hK : K ≤ N) : (wide ss N K x).length = N + 1 := by
  simp [wide]
  omega

theorem wide_lt {ss : List ByteArray} {N K : Nat} {x : ByteArray} (hN : N ≤ ss.length) (hK : K ≤ N) {i : Nat} (hi : i < K) : (wide ss N K x)[i]'(by rw [wide_length hN hK]; omega) = ss[i]'(by omega) := by
  simp only [wide]
  rw [List.getElem_append_left (by simp; omega)]
  simp

theorem wide_at {ss : List ByteArray} {N K : Nat} {x : ByteArray} (hN : N ≤ ss.length) (hK : K ≤ N) : (wide ss N K x)[K]'(by rw [wide_length hN hK]; omega) = x := by
  simp only [wide]
  rw [List.getElem_append_right (by simp; omega)]
  have e : K - ((ss.take N).take K).length = 0 := by simp; omega
  simp only [e, List.getElem_cons_zero]

theorem wide_gt {ss : List ByteArray} {N K : Nat} {x : ByteArray} (hN : N ≤ ss.length) (hK : K ≤ N) {i : Nat} (hi : K ≤ i) (hi2 : i < N) : (wide ss N K x)[i + 1]'(by rw [wide_length hN hK]; omega) = ss[i]'(by omega) := by
  simp only [wide]
  rw [List.getElem_append_right (by simp; omega)]
  have e : i + 1 - ((ss.take N).take K).length = (i - K) + 1 := by simp; omega
  simp only [e, List.getElem_cons_succ]
  rw [List.getElem_drop, List.getElem_take]
  congr 1
  omega

theorem wide_zip (ss ls : List ByteArray) (N K : Nat) (x y : ByteArray) (h1 : N ≤ ss.length) (h2 : N ≤ ls.length) (hK : K ≤ N) : (wide ss N K x).zip (wide ls N K y) = insAt ((ss.zip ls).take N) K (x, y) := by
  unfold wide insAt
  rw [List.zip_append (by simp; omega), List.zip_cons_cons, ← zip_take ss ls N]
  simp [List.zip, List.take_zipWith, List.drop_zipWith]

/-- The first f cells of the row hold T's first f strings. -/
def Filled (cur : List Value) (T : List ByteArray) (f : Nat) : Prop := ∀ i (h : i < T.length), i < f → cur[i]? = some (.string T[i])
theorem Filled.step {cur : List Value} {T : List ByteArray} {f : Nat} (h : Filled cur T f) (hc : cur.length = T.length) (hf : f < T.length) : Filled (cur.set f (.string T[f])) T (f + 1) := by
  intro i hi hif
  rcases Nat.lt_or_ge i f with hlt | hge
  · rw [List.getElem?_set_ne (by omega)]
    exact h i hi hlt
  · obtain rfl : i = f := by omega
    rw [List.getElem?_set_self (by omega)]

/-- Two rows of strings of the call's own, each filled as far as f, g. -/
structure Two (w wr : World) (S L M : Nat) (cS cL : List Value) (TS TL : List ByteArray) (f g : Nat) : Prop where
  below : Below w.heap.size w wr
  ownS : wr.ownsRow w.heap.size 9 1 (.slice (some ⟨S, 0, none⟩) M M) M cS
  ownL : wr.ownsRow w.heap.size 9 1 (.slice (some ⟨L, 0, none⟩) M M) M cL
  ne : S ≠ L
  lS : TS.length = M
  lL : TL.length = M
  fS : Filled cS TS f
  fL : Filled cL TL g

theorem Two.putS {w wr : World} {S L M : Nat} {cS cL : List Value} {TS TL : List ByteArray} {f g : Nat} (h : Two w wr S L M cS cL TS TL f g) (hf : f < M) (s : ByteArray) (hs : ∀ hh : f < TS.length, TS[f] = s) :
    Two w (wr.setCell ⟨S, f, none⟩ (.string s)) S L M (cS.set f (.string s)) cL TS TL (f + 1) g := by
  have hl : cS.length = M := by simpa using h.ownS.1
  obtain ⟨hS, hg⟩ := h.ownS.stored f (.string s)
  have hfT : f < TS.length := by rw [h.lS]; exact hf
  refine ⟨h.below.setCell (h.ownS.lt S rfl).1 _, hS, h.ownL.kept hg (.inr (fun e => h.ne (Option.some.inj e).symm)), h.ne, h.lS, h.lL, ?_, h.fL⟩
  have := h.fS.step (by rw [hl, h.lS]) hfT
  rw [hs hfT] at this
  exact this

theorem Two.putL {w wr : World} {S L M : Nat} {cS cL : List Value} {TS TL : List ByteArray} {f g : Nat} (h : Two w wr S L M cS cL TS TL f g) (hg : g < M) (s : ByteArray) (hs : ∀ hh : g < TL.length, TL[g] = s) :
    Two w (wr.setCell ⟨L, g, none⟩ (.string s)) S L M cS (cL.set g (.string s)) TS TL f (g + 1) := by
  have hl : cL.length = M := by simpa using h.ownL.1
  obtain ⟨hL, hgr⟩ := h.ownL.stored g (.string s)
  have hgT : g < TL.length := by rw [h.lL]; exact hg
  refine ⟨h.below.setCell (h.ownL.lt L rfl).1 _, h.ownS.kept hgr (.inr (fun e => h.ne (Option.some.inj e))), hL, h.ne, h.lS, h.lL, h.fS, ?_⟩
  have := h.fL.step (by rw [hl, h.lL]) hgT
  rw [hs hgT] at this
  exact this

theorem Two.cellS {w wr : World} {S L M : Nat} {cS cL : List Value} {TS TL : List ByteArray} {f g : Nat} (h : Two w wr S L M cS cL TS TL f g) {i : Nat} (hi : i < M) : ∃ u, wr.cell? ⟨S, i, none⟩ = some u ∧ wr.frozen? ⟨S, i, none⟩ = false := by
  have hl : cS.length = M := by simpa using h.ownS.1
  exact ⟨_, (h.ownS.cellAt i (by omega)).trans (List.getElem?_eq_getElem (by omega)), h.ownS.frozenAt i⟩

theorem Two.cellL {w wr : World} {S L M : Nat} {cS cL : List Value} {TS TL : List ByteArray} {f g : Nat} (h : Two w wr S L M cS cL TS TL f g) {i : Nat} (hi : i < M) : ∃ u, wr.cell? ⟨L, i, none⟩ = some u ∧ wr.frozen? ⟨L, i, none⟩ = false := by
  have hl : cL.length = M := by simpa using h.ownL.1
  exact ⟨_, (h.ownL.cellAt i (by omega)).trans (List.getElem?_eq_getElem (by omega)), h.ownL.frozenAt i⟩

theorem Two.end {w wr : World} {S L M : Nat} {cS cL : List Value} {TS TL : List ByteArray} (h : Two w wr S L M cS cL TS TL M M) : Strs wr (some ⟨S, 0, none⟩) M M TS ∧ Strs wr (some ⟨L, 0, none⟩) M M TL := by
  refine ⟨⟨h.lS, Nat.le_refl _, .inr ⟨S, 0, rfl, fun j hj => ?_⟩⟩, ⟨h.lL, Nat.le_refl _, .inr ⟨L, 0, rfl, fun j hj => ?_⟩⟩⟩
  · have hj' : j < M := by rw [← h.lS]; exact hj
    rw [Nat.zero_add, h.ownS.cellAt j (by omega)]
    exact h.fS j hj hj'
  · have hj' : j < M := by rw [← h.lL]; exact hj
    rw [Nat.zero_add, h.ownL.cellAt j (by omega)]
    exact h.fL j hj hj'

end Go.Proofs.Qxb6608526a.Attr
