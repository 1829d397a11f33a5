import Derived.Test.Qxb6608527aFold
namespace Go.Proofs.Qxb6608527a.Tm
open Go.RowKit
set_option linter.unusedVariables false

/-- A slice of int64: its elements 'xs'; where there is one, it lies in a plain row of cells. -/
def Nums (w : World) (ao : Option Addr) (len cap : Nat) (xs : List Int) : Prop :=
  xs.length = len ∧ (∀ x ∈ xs, InRange x) ∧ ((len = 0 ∧ (ao = none → cap = 0)) ∨ ∃ b off, ao = some ⟨b, off, none⟩ ∧ ∀ j (hj : j < xs.length), w.cell? ⟨b, off + j, none⟩ = some (.int .i64 xs[j]))

theorem Nums.at {w : World} {ao : Option Addr} {len cap : Nat} {xs : List Int} (h : Nums w ao len cap xs) (hlen : 0 < len) : ∃ b off, ao = some ⟨b, off, none⟩ ∧ b < w.heap.size ∧ ∀ j (hj : j < xs.length), w.cell? ⟨b, off + j, none⟩ = some (.int .i64 xs[j]) := by
  obtain ⟨b, off, e, hc⟩ := h.2.2.resolve_left (fun h => by omega)
  exact ⟨b, off, e, World.block_lt_of_cell? w ⟨b, off + 0, none⟩ (hc 0 (by have := h.1; omega)), hc⟩

theorem range_take {xs : List Int} (h : ∀ x ∈ xs, InRange x) (k : Nat) : InRange (least (xs.take k)) := least_range _ (fun x hx => h x (List.mem_of_mem_take hx))
theorem range_drop {xs : List Int} (h : ∀ x ∈ xs, InRange x) (k : Nat) : InRange (least (xs.drop k)) := least_range _ (fun x hx => h x (List.mem_of_mem_drop hx))

theorem least_take (xs : List Int) (k : Nat) (h : k < xs.length) : least (xs.take (k + 1)) = earl (least (xs.take k)) xs[k] := by rw [take_snoc xs k h, least_snoc]
theorem least_drop (xs : List Int) (k : Nat) (h : k < xs.length) : least (xs.drop k) = earl xs[k] (least (xs.drop (k + 1))) := by rw [List.drop_eq_getElem_cons h]; rfl

theorem bytes6 (a : Option Addr) (la ca : Nat) (w : World) :
    Calls Try.prog 6 #[.slice a la ca] w fun e w' => e = .returned (.bool (decide (la ≤ 1048576))) ∧ w' = w := by
  by_cases h1 : la ≤ 1048576
  · have g1 : (la : Int) ≤ 1048576 := by omega
    go_enter Try.func6, Try.ntmps6
    go_wp2
    go_ret
    exact ⟨ret_bool (by simp [h1]), rfl⟩
  · have g1 : (1048576 : Int) < (la : Int) := by omega
    go_enter Try.func6, Try.ntmps6
    go_wp2
    go_ret
    exact ⟨ret_bool (by simp [h1]), rfl⟩

set_option maxHeartbeats 1000000 in
theorem fold_law (ao : Option Addr) (len cap : Nat) (xs : List Int) (w : World) (hx : Nums w ao len cap xs) :
    Calls Try.prog 3 #[.slice ao len cap] w fun e w' => e = .returned (.bool true) ∧ Below w.heap.size w w' := by
  by_cases hs : len ≤ 1048576
  case neg =>
    have hd : decide (len ≤ 1048576) = false := by simp [hs]
    go_enter Try.func3, Try.ntmps3
    go_wp2_with (go_at_call 6; refine (bytes6 _ _ _ _).mono ?_; rintro e w ⟨rfl, rfl⟩)
    go_ret
    exact ⟨rfl, Below.refl _ _⟩
  have hd : decide (len ≤ 1048576) = true := by simp [hs]
  by_cases hs2 : len ≤ 65536
  case neg =>
    have hl : (65536 : Int) < (len : Int) := by omega
    go_enter Try.func3, Try.ntmps3
    go_wp2_with (go_at_call 6; refine (bytes6 _ _ _ _).mono ?_; rintro e w ⟨rfl, rfl⟩)
    go_ret
    exact ⟨rfl, Below.refl _ _⟩
  have hl : (len : Int) ≤ 65536 := by omega
  have Hlen : Hid (xs.length = len) := hx.1
  have HR : Hid (∀ x ∈ xs, InRange x) := hx.2.1
  go_enter Try.func3, Try.ntmps3
  go_wp2_with (go_at_call 6; refine (bytes6 _ _ _ _).mono ?_; rintro e w ⟨rfl, rfl⟩)
  go_loopw [3, 4] (fun f i wr => ∃ k : Nat, k ≤ len ∧ i = .int .i64 k ∧ f = .int .i64 (least (xs.take k)) ∧ Below w.heap.size w wr) (fun _ i _ => len - (intOf i).toNat)
  case atStart => exact ⟨0, Nat.zero_le _, rfl, rfl, Below.refl _ _⟩
  case round =>
    obtain ⟨k, hk, rfl, rfl, hb⟩ := hrel
    by_cases hlt : k < len
    · have i0 : (k : Int) < (len : Int) := by omega
      obtain ⟨b, off, e, hbw, hc⟩ := hx.at (by omega)
      have hkl : k < xs.length := by rw [Hlen.out]; exact hlt
      have c1 : wr.cell? ⟨b, off + k, none⟩ = some (.int .i64 xs[k]) := (hb.cell (p := ⟨b, off + k, none⟩) hbw).trans (hc k hkl)
      have r1 := range_take HR.out k
      have r2 := HR.out _ (List.getElem_mem hkl)
      have HN : Hid (least (xs.take (k + 1)) = earl (least (xs.take k)) xs[k]) := least_take xs k hkl
      generalize least (xs.take k) = f at *
      obtain ⟨x, hxk⟩ : ∃ x, xs[k] = x := ⟨_, rfl⟩
      rw [hxk] at c1 r2
      have HX : Hid (xs[k] = x) := hxk
      clear hxk hc hx
      subst e
      go_wp2_with fail
      refine (zzearliest7 f x _ r1.1 r1.2 r2.1 r2.2).mono ?_
      rintro e w2 ⟨rfl, hb2⟩
      have hb3 := hb.trans (hb2.mono hb.size)
      clear hb hb2 c1
      go_wp2_with fail
      exact ⟨⟨k + 1, by omega, by go_num, by rw [HN.out, HX.out], hb3⟩, by simp [intOf]; omega⟩
    · obtain rfl : k = len := by omega
      have HT : Hid (xs.take k = xs) := List.take_of_length_le (by rw [Hlen.out]; exact Nat.le_refl _)
      rw [HT.out]
      have rm : InRange (least xs) := least_range xs HR.out
      obtain ⟨mm, hmm⟩ : ∃ mm, least xs = mm := ⟨_, rfl⟩
      have Hm : Hid (least xs = mm) := hmm
      rw [hmm] at rm ⊢
      clear hmm HT
      generalize wr = w1 at *
      go_wp2_with fail
      go_loopw [5, 6] (fun f i wr => ∃ j : Nat, j ≤ k ∧ i = .int .i64 ((j : Int) - 1) ∧ f = .int .i64 (least (xs.drop j)) ∧ Below w.heap.size w wr) (fun _ i _ => (intOf i + 1).toNat)
      case atStart => exact ⟨k, Nat.le_refl _, rfl, by rw [List.drop_of_length_le (by rw [Hlen.out]; exact Nat.le_refl _)]; rfl, hb⟩
      case round =>
        clear hb
        obtain ⟨j, hj, rfl, rfl, hb⟩ := hrel
        by_cases h0 : j = 0
        · subst h0
          rw [List.drop_zero, Hm.out]
          clear hj hlt
          go_wp2_with fail
          go_loop [7, 8, 9] (fun sn fd i => ∃ p : Nat, p ≤ k ∧ i = .int .i64 p ∧ sn = .bool (anyNZ (xs.take p)) ∧ fd = .bool (anyNZEq (xs.take p) mm)) (fun _ _ i => k - (intOf i).toNat)
          case atStart => exact ⟨0, Nat.zero_le _, rfl, rfl, rfl⟩
          case round =>
            obtain ⟨p, hp, rfl, rfl, rfl⟩ := hrel
            by_cases hlt : p < k
            · have i0 : (p : Int) < (k : Int) := by omega
              obtain ⟨b, off, e, hbw, hc⟩ := hx.at (by omega)
              have hkl : p < xs.length := by rw [Hlen.out]; exact hlt
              have c1 : wr.cell? ⟨b, off + p, none⟩ = some (.int .i64 xs[p]) := (hb.cell (p := ⟨b, off + p, none⟩) hbw).trans (hc p hkl)
              have H1 : Hid (anyNZ (xs.take (p + 1)) = (anyNZ (xs.take p) || xs[p] != 0)) := anyNZ_snoc xs p hkl
              have H2 : Hid (anyNZEq (xs.take (p + 1)) mm = (anyNZEq (xs.take p) mm || (xs[p] != 0 && xs[p] == mm))) := anyNZEq_snoc xs mm p hkl
              have hle := least_le xs xs[p] (List.getElem_mem hkl)
              rw [Hm.out] at hle
              obtain ⟨x, hxk⟩ : ∃ x, xs[p] = x := ⟨_, rfl⟩
              rw [hxk] at c1 hle
              have HX : Hid (xs[p] = x) := hxk
              generalize anyNZ (xs.take p) = bs at *
              generalize anyNZEq (xs.take p) mm = bf at *
              clear hxk hc hx
              subst e
              by_cases hx0 : x = 0
              · have hx0' : (x == 0) = true := by simp [hx0]
                have HX0 : Hid (x = 0) := hx0
                clear hx0 hle
                go_wp2_with fail
                exact ⟨⟨p + 1, by omega, by go_num, by rw [H1.out, HX.out, HX0.out]; simp, by rw [H2.out, HX.out, HX0.out]; simp⟩, by simp [intOf]; omega⟩
              · have hx0' : (x == 0) = false := by simp [hx0]
                have hge := (hle hx0).1
                have HX0 : Hid (x ≠ 0) := hx0
                clear hx0 hle
                by_cases hxm : x = mm
                · have hxm' : (x == mm) = true := by simp [hxm]
                  have HXM : Hid (x = mm) := hxm
                  clear hxm
                  go_wp2_with fail
                  exact ⟨⟨p + 1, by omega, by go_num, by rw [H1.out, HX.out]; simp [HX0.out], by rw [H2.out, HX.out, hxm']; simp [HX0.out]⟩, by simp [intOf]; omega⟩
                · have hxm' : (x == mm) = false := by simp [hxm]
                  clear hxm
                  go_wp2_with fail
                  exact ⟨⟨p + 1, by omega, by go_num, by rw [H1.out, HX.out]; simp [HX0.out], by rw [H2.out, HX.out]; simp [hxm']⟩, by simp [intOf]; omega⟩
            · obtain rfl : p = k := by omega
              have HT : Hid (xs.take p = xs) := List.take_of_length_le (by rw [Hlen.out]; exact Nat.le_refl _)
              rw [HT.out]
              clear hx hlt HT
              cases hany : anyNZ xs with
              | false =>
                have hz := of_none xs hany
                rw [Hm.out] at hz
                have hz' : (mm == 0) = true := by simp [hz]
                clear hz hany
                go_wp2_with fail
                go_ret
                exact ⟨rfl, hb⟩
              | true =>
                have hf := found_of_some xs hany
                rw [Hm.out] at hf
                rw [hf]
                clear hf hany
                go_wp2_with fail
                go_ret
                exact ⟨rfl, hb⟩
        · obtain ⟨i, rfl⟩ : ∃ i, j = i + 1 := ⟨j - 1, by omega⟩
          have e1 : ((i + 1 : Nat) : Int) - 1 = (i : Int) := by omega
          rw [e1]
          clear e1 h0
          have i0 : (i : Int) < (k : Int) := by omega
          obtain ⟨b, off, e, hbw, hc⟩ := hx.at (by omega)
          have hkl : i < xs.length := by rw [Hlen.out]; omega
          have c1 : wr.cell? ⟨b, off + i, none⟩ = some (.int .i64 xs[i]) := (hb.cell (p := ⟨b, off + i, none⟩) hbw).trans (hc i hkl)
          have r1 := range_drop HR.out (i + 1)
          have r2 := HR.out _ (List.getElem_mem hkl)
          have HN : Hid (least (xs.drop i) = earl xs[i] (least (xs.drop (i + 1)))) := least_drop xs i hkl
          generalize least (xs.drop (i + 1)) = f at *
          obtain ⟨x, hxk⟩ : ∃ x, xs[i] = x := ⟨_, rfl⟩
          rw [hxk] at c1 r2
          have HX : Hid (xs[i] = x) := hxk
          clear hxk hc hx
          subst e
          go_wp2_with fail
          refine (zzearliest7 x f _ r2.1 r2.2 r1.1 r1.2).mono ?_
          rintro e w2 ⟨rfl, hb2⟩
          have hb3 := hb.trans (hb2.mono hb.size)
          clear hb hb2 c1
          go_wp2_with fail
          exact ⟨⟨i, by omega, rfl, by rw [HN.out, HX.out], hb3⟩, by simp [intOf]⟩

end Go.Proofs.Qxb6608527a.Tm
