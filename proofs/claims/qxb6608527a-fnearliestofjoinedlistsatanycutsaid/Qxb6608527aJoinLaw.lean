import Derived.Test.Qxb6608527aFoldLaw
namespace Go.Proofs.Qxb6608527a.Tm
open Go.RowKit
set_option linter.unusedVariables false

theorem bytes8 (a b : Option Addr) (la ca lb cb : Nat) (w : World) :
    Calls Try.prog 8 #[.slice a la ca, .slice b lb cb] w fun e w' => e = .returned (.bool (decide (la + lb ≤ 1048576))) ∧ w' = w := by
  by_cases h1 : la ≤ 1048576
  · have g1 : (la : Int) ≤ 1048576 := by omega
    by_cases h2 : lb ≤ 1048576
    · have g2 : (lb : Int) ≤ 1048576 := by omega
      by_cases h3 : la + lb ≤ 1048576
      · have g3 : (la : Int) + (lb : Int) ≤ 1048576 := by omega
        go_enter Try.func8, Try.ntmps8
        go_wp2
        go_ret
        exact ⟨ret_bool (by simp [h3]), rfl⟩
      · have g3 : (1048576 : Int) < (la : Int) + (lb : Int) := by omega
        go_enter Try.func8, Try.ntmps8
        go_wp2
        go_ret
        exact ⟨ret_bool (by simp [h3]), rfl⟩
    · have g2 : (1048576 : Int) < (lb : Int) := by omega
      have h3 : ¬ la + lb ≤ 1048576 := by omega
      go_enter Try.func8, Try.ntmps8
      go_wp2
      go_ret
      exact ⟨ret_bool (by simp [h3]), rfl⟩
  · have g1 : (1048576 : Int) < (la : Int) := by omega
    have h3 : ¬ la + lb ≤ 1048576 := by omega
    go_enter Try.func8, Try.ntmps8
    go_wp2
    go_ret
    exact ⟨ret_bool (by simp [h3]), rfl⟩

/-- The whole's fold goes on from xs's. -/
theorem whole_take (f : Int) (ys : List Int) (k : Nat) (h : k < ys.length) : earl f (least (ys.take (k + 1))) = earl (earl f (least (ys.take k))) ys[k] := by
  rw [least_take ys k h, earl_assoc]

theorem range_earl {a b : Int} (ha : InRange a) (hb : InRange b) : InRange (earl a b) := earl_range a b ha.1 ha.2 hb.1 hb.2


set_option maxHeartbeats 2000000 in
theorem join_law (ao bo : Option Addr) (la ca lb cb : Nat) (xs ys : List Int) (w : World) (hx : Nums w ao la ca xs) (hy : Nums w bo lb cb ys) :
    Calls Try.prog 4 #[.slice ao la ca, .slice bo lb cb] w fun e w' => e = .returned (.bool true) ∧ Below w.heap.size w w' := by
  by_cases hs : la + lb ≤ 1048576
  case neg =>
    have hd : decide (la + lb ≤ 1048576) = false := by simp [hs]
    go_enter Try.func4, Try.ntmps4
    go_wp2_with (go_at_call 8; refine (bytes8 _ _ _ _ _ _ _).mono ?_; rintro e w ⟨rfl, rfl⟩)
    go_ret
    exact ⟨rfl, Below.refl _ _⟩
  have hd : decide (la + lb ≤ 1048576) = true := by simp [hs]
  by_cases hs2 : la ≤ 65536
  case neg =>
    have hl : (65536 : Int) < (la : Int) := by omega
    go_enter Try.func4, Try.ntmps4
    go_wp2_with (go_at_call 8; refine (bytes8 _ _ _ _ _ _ _).mono ?_; rintro e w ⟨rfl, rfl⟩)
    go_ret
    exact ⟨rfl, Below.refl _ _⟩
  have hl : (la : Int) ≤ 65536 := by omega
  by_cases hs3 : lb ≤ 65536
  case neg =>
    have hl2 : (65536 : Int) < (lb : Int) := by omega
    go_enter Try.func4, Try.ntmps4
    go_wp2_with (go_at_call 8; refine (bytes8 _ _ _ _ _ _ _).mono ?_; rintro e w ⟨rfl, rfl⟩)
    go_ret
    exact ⟨rfl, Below.refl _ _⟩
  have hl2 : (lb : Int) ≤ 65536 := by omega
  have HlX : Hid (xs.length = la) := hx.1
  have HlY : Hid (ys.length = lb) := hy.1
  have HRX : Hid (∀ x ∈ xs, InRange x) := hx.2.1
  have HRY : Hid (∀ x ∈ ys, InRange x) := hy.2.1
  go_enter Try.func4, Try.ntmps4
  go_wp2_with (go_at_call 8; refine (bytes8 _ _ _ _ _ _ _).mono ?_; rintro e w ⟨rfl, rfl⟩)
  go_loopw [5, 6] (fun f i wr => ∃ k : Nat, k ≤ la ∧ i = .int .i64 k ∧ f = .int .i64 (least (xs.take k)) ∧ Below w.heap.size w wr) (fun _ i _ => la - (intOf i).toNat)
  case atStart => exact ⟨0, Nat.zero_le _, rfl, rfl, Below.refl _ _⟩
  case round =>
    obtain ⟨k, hk, rfl, rfl, hb⟩ := hrel
    by_cases hlt : k < la
    · have i0 : (k : Int) < (la : Int) := by omega
      obtain ⟨b, off, e, hbw, hc⟩ := hx.at (by omega)
      have hkl : k < xs.length := by rw [HlX.out]; exact hlt
      have c1 : wr.cell? ⟨b, off + k, none⟩ = some (.int .i64 xs[k]) := (hb.cell (p := ⟨b, off + k, none⟩) hbw).trans (hc k hkl)
      have r1 := range_take HRX.out k
      have r2 := HRX.out _ (List.getElem_mem hkl)
      have HN : Hid (least (xs.take (k + 1)) = earl (least (xs.take k)) xs[k]) := least_take xs k hkl
      generalize least (xs.take k) = f at *
      obtain ⟨x, hxk⟩ : ∃ x, xs[k] = x := ⟨_, rfl⟩
      rw [hxk] at c1 r2
      have HX : Hid (xs[k] = x) := hxk
      clear hxk hc hx
      subst e
      go_wp2_with fail
      refine (zzearliest7 f x _ r1.1 r1.2 r2.1 r2.2).mono ?_
      rintro e w2 ⟨rfl, hb2⟩
      have hb3 := hb.trans (hb2.mono hb.size)
      clear hb hb2 c1
      go_wp2_with fail
      exact ⟨⟨k + 1, by omega, by go_num, by rw [HN.out, HX.out], hb3⟩, by simp [intOf]; omega⟩
    · obtain rfl : k = la := by omega
      have HT : Hid (xs.take k = xs) := List.take_of_length_le (by rw [HlX.out]; exact Nat.le_refl _)
      rw [HT.out]
      have rx : InRange (least xs) := least_range xs HRX.out
      obtain ⟨fx, hfx⟩ : ∃ f, least xs = f := ⟨_, rfl⟩
      have Hfx : Hid (least xs = fx) := hfx
      rw [hfx] at rx ⊢
      clear hfx HT
      generalize wr = w1 at *
      go_wp2_with fail
      go_loopw [7, 8] (fun f i wr => ∃ j : Nat, j ≤ lb ∧ i = .int .i64 j ∧ f = .int .i64 (least (ys.take j)) ∧ Below w.heap.size w wr) (fun _ i _ => lb - (intOf i).toNat)
      case atStart => exact ⟨0, Nat.zero_le _, rfl, rfl, hb⟩
      case round =>
        clear hb
        obtain ⟨j, hj, rfl, rfl, hb⟩ := hrel
        by_cases hlt : j < lb
        · have i0 : (j : Int) < (lb : Int) := by omega
          obtain ⟨b, off, e, hbw, hc⟩ := hy.at (by omega)
          have hkl : j < ys.length := by rw [HlY.out]; exact hlt
          have c1 : wr.cell? ⟨b, off + j, none⟩ = some (.int .i64 ys[j]) := (hb.cell (p := ⟨b, off + j, none⟩) hbw).trans (hc j hkl)
          have r1 := range_take HRY.out j
          have r2 := HRY.out _ (List.getElem_mem hkl)
          have HN : Hid (least (ys.take (j + 1)) = earl (least (ys.take j)) ys[j]) := least_take ys j hkl
          generalize least (ys.take j) = f at *
          obtain ⟨x, hxk⟩ : ∃ x, ys[j] = x := ⟨_, rfl⟩
          rw [hxk] at c1 r2
          have HX : Hid (ys[j] = x) := hxk
          clear hxk hc hx hy
          subst e
          go_wp2_with fail
          refine (zzearliest7 f x _ r1.1 r1.2 r2.1 r2.2).mono ?_
          rintro e w2 ⟨rfl, hb2⟩
          have hb3 := hb.trans (hb2.mono hb.size)
          clear hb hb2 c1
          go_wp2_with fail
          exact ⟨⟨j + 1, by omega, by go_num, by rw [HN.out, HX.out], hb3⟩, by simp [intOf]; omega⟩
        · obtain rfl : j = lb := by omega
          have HT : Hid (ys.take j = ys) := List.take_of_length_le (by rw [HlY.out]; exact Nat.le_refl _)
          rw [HT.out]
          have ry : InRange (least ys) := least_range ys HRY.out
          obtain ⟨fy, hfy⟩ : ∃ f, least ys = f := ⟨_, rfl⟩
          have Hfy : Hid (least ys = fy) := hfy
          rw [hfy] at ry ⊢
          clear hfy HT
          generalize wr = w2 at *
          go_wp2_with fail
          go_loopw [9, 10] (fun f i wr => ∃ p : Nat, p ≤ j ∧ i = .int .i64 p ∧ f = .int .i64 (earl fx (least (ys.take p))) ∧ Below w.heap.size w wr) (fun _ i _ => j - (intOf i).toNat)
          case atStart => exact ⟨0, Nat.zero_le _, rfl, by rw [List.take_zero]; show _ = Value.int .i64 (earl fx 0); rw [earl_zero_right], hb⟩
          case round =>
            clear hb
            obtain ⟨p, hp, rfl, rfl, hb⟩ := hrel
            by_cases hlt : p < j
            · have i0 : (p : Int) < (j : Int) := by omega
              obtain ⟨b, off, e, hbw, hc⟩ := hy.at (by omega)
              have hkl : p < ys.length := by rw [HlY.out]; exact hlt
              have c1 : wr.cell? ⟨b, off + p, none⟩ = some (.int .i64 ys[p]) := (hb.cell (p := ⟨b, off + p, none⟩) hbw).trans (hc p hkl)
              have r1 := range_earl rx (range_take HRY.out p)
              have r2 := HRY.out _ (List.getElem_mem hkl)
              have HN : Hid (earl fx (least (ys.take (p + 1))) = earl (earl fx (least (ys.take p))) ys[p]) := whole_take fx ys p hkl
              generalize earl fx (least (ys.take p)) = f at *
              obtain ⟨x, hxk⟩ : ∃ x, ys[p] = x := ⟨_, rfl⟩
              rw [hxk] at c1 r2
              have HX : Hid (ys[p] = x) := hxk
              clear hxk hc hx hy
              subst e
              go_wp2_with fail
              refine (zzearliest7 f x _ r1.1 r1.2 r2.1 r2.2).mono ?_
              rintro e w3 ⟨rfl, hb2⟩
              have hb3 := hb.trans (hb2.mono hb.size)
              clear hb hb2 c1
              go_wp2_with fail
              exact ⟨⟨p + 1, by omega, by go_num, by rw [HN.out, HX.out], hb3⟩, by simp [intOf]; omega⟩
            · obtain rfl : p = j := by omega
              have HT : Hid (ys.take p = ys) := List.take_of_length_le (by rw [HlY.out]; exact Nat.le_refl _)
              rw [HT.out, Hfy.out]
              have rw' : InRange (earl fx fy) := range_earl rx ry
              obtain ⟨mm, hmm⟩ : ∃ m, earl fx fy = m := ⟨_, rfl⟩
              have Hm : Hid (earl fx fy = mm) := hmm
              have Hm2 : Hid (earl fy fx = mm) := by rw [earl_comm]; exact hmm
              have HW : Hid (least (xs ++ ys) = mm) := by rw [least_append, Hfx.out, Hfy.out]; exact hmm
              rw [hmm] at rw' ⊢
              clear hmm HT
              go_wp2_with fail
              refine (zzearliest7 fx fy _ rx.1 rx.2 ry.1 ry.2).mono ?_
              rw [Hm.out]
              rintro e w4 ⟨rfl, hb4⟩
              replace hb := hb.trans (hb4.mono hb.size)
              clear hb4
              go_wp2_with fail
              refine (zzearliest7 fy fx _ ry.1 ry.2 rx.1 rx.2).mono ?_
              rw [Hm2.out]
              rintro e w5 ⟨rfl, hb5⟩
              replace hb := hb.trans (hb5.mono hb.size)
              clear hb5
              go_wp2_with fail
              go_loop [11, 12, 13] (fun sn mb i => ∃ q : Nat, q ≤ k ∧ i = .int .i64 q ∧ sn = .bool (anyNZ (xs.take q)) ∧ mb = .bool (anyEq (xs.take q) mm)) (fun _ _ i => k - (intOf i).toNat)
              case atStart => exact ⟨0, Nat.zero_le _, rfl, rfl, rfl⟩
              case round =>
                obtain ⟨q, hq, rfl, rfl, rfl⟩ := hrel
                by_cases hlt : q < k
                · have i0 : (q : Int) < (k : Int) := by omega
                  obtain ⟨b, off, e, hbw, hc⟩ := hx.at (by omega)
                  have hkl : q < xs.length := by rw [HlX.out]; exact hlt
                  have c1 : w5.cell? ⟨b, off + q, none⟩ = some (.int .i64 xs[q]) := (hb.cell (p := ⟨b, off + q, none⟩) hbw).trans (hc q hkl)
                  have H1 : Hid (anyNZ (xs.take (q + 1)) = (anyNZ (xs.take q) || xs[q] != 0)) := anyNZ_snoc xs q hkl
                  have H2 : Hid (anyEq (xs.take (q + 1)) mm = (anyEq (xs.take q) mm || xs[q] == mm)) := anyEq_snoc xs mm q hkl
                  obtain ⟨x, hxk⟩ : ∃ x, xs[q] = x := ⟨_, rfl⟩
                  rw [hxk] at c1
                  have HX : Hid (xs[q] = x) := hxk
                  generalize anyNZ (xs.take q) = bs at *
                  generalize anyEq (xs.take q) mm = bf at *
                  clear hxk hc hx hy
                  subst e
                  cases hx0 : (x != 0)
                  · cases hxm : (x == mm)
                    · go_wp2_with fail
                      exact ⟨⟨q + 1, by omega, by go_num, by rw [H1.out, HX.out, hx0]; simp, by rw [H2.out, HX.out, hxm]; simp⟩, by simp [intOf]; omega⟩
                    · go_wp2_with fail
                      exact ⟨⟨q + 1, by omega, by go_num, by rw [H1.out, HX.out, hx0]; simp, by rw [H2.out, HX.out, hxm]; simp⟩, by simp [intOf]; omega⟩
                  · cases hxm : (x == mm)
                    · go_wp2_with fail
                      exact ⟨⟨q + 1, by omega, by go_num, by rw [H1.out, HX.out, hx0]; simp, by rw [H2.out, HX.out, hxm]; simp⟩, by simp [intOf]; omega⟩
                    · go_wp2_with fail
                      exact ⟨⟨q + 1, by omega, by go_num, by rw [H1.out, HX.out, hx0]; simp, by rw [H2.out, HX.out, hxm]; simp⟩, by simp [intOf]; omega⟩
                · obtain rfl : q = k := by omega
                  have HT : Hid (xs.take q = xs) := List.take_of_length_le (by rw [HlX.out]; exact Nat.le_refl _)
                  rw [HT.out]
                  obtain ⟨bx, hbx⟩ : ∃ b, anyNZ xs = b := ⟨_, rfl⟩
                  obtain ⟨mx, hmx⟩ : ∃ b, anyEq xs mm = b := ⟨_, rfl⟩
                  have Hbx : Hid (anyNZ xs = bx) := hbx
                  have Hmx : Hid (anyEq xs mm = mx) := hmx
                  rw [hbx, hmx]
                  clear hbx hmx HT hlt
                  go_wp2_with fail
                  go_loop [11, 12, 14] (fun sn mb i => ∃ r : Nat, r ≤ p ∧ i = .int .i64 r ∧ sn = .bool (bx || anyNZ (ys.take r)) ∧ mb = .bool (mx || anyEq (ys.take r) mm)) (fun _ _ i => p - (intOf i).toNat)
                  case atStart => exact ⟨0, Nat.zero_le _, rfl, by simp [anyNZ], by simp [anyEq]⟩
                  case round =>
                    obtain ⟨r, hr, rfl, rfl, rfl⟩ := hrel
                    by_cases hlt : r < p
                    · have i0 : (r : Int) < (p : Int) := by omega
                      obtain ⟨b, off, e, hbw, hc⟩ := hy.at (by omega)
                      have hkl : r < ys.length := by rw [HlY.out]; exact hlt
                      have c1 : w5.cell? ⟨b, off + r, none⟩ = some (.int .i64 ys[r]) := (hb.cell (p := ⟨b, off + r, none⟩) hbw).trans (hc r hkl)
                      have H1 : Hid (anyNZ (ys.take (r + 1)) = (anyNZ (ys.take r) || ys[r] != 0)) := anyNZ_snoc ys r hkl
                      have H2 : Hid (anyEq (ys.take (r + 1)) mm = (anyEq (ys.take r) mm || ys[r] == mm)) := anyEq_snoc ys mm r hkl
                      obtain ⟨x, hxk⟩ : ∃ x, ys[r] = x := ⟨_, rfl⟩
                      rw [hxk] at c1
                      have HX : Hid (ys[r] = x) := hxk
                      obtain ⟨bs, hbs⟩ : ∃ b, (bx || anyNZ (ys.take r)) = b := ⟨_, rfl⟩
                      obtain ⟨bf, hbf⟩ : ∃ b, (mx || anyEq (ys.take r) mm) = b := ⟨_, rfl⟩
                      have Hbs : Hid ((bx || anyNZ (ys.take r)) = bs) := hbs
                      have Hbf : Hid ((mx || anyEq (ys.take r) mm) = bf) := hbf
                      rw [hbs, hbf]
                      clear hbs hbf
                      clear hxk hc hx hy
                      subst e
                      cases hx0 : (x != 0)
                      · cases hxm : (x == mm)
                        · go_wp2_with fail
                          exact ⟨⟨r + 1, by omega, by go_num, by rw [H1.out, HX.out, hx0, ← Bool.or_assoc, Hbs.out]; simp, by rw [H2.out, HX.out, hxm, ← Bool.or_assoc, Hbf.out]; simp⟩, by simp [intOf]; omega⟩
                        · go_wp2_with fail
                          exact ⟨⟨r + 1, by omega, by go_num, by rw [H1.out, HX.out, hx0, ← Bool.or_assoc, Hbs.out]; simp, by rw [H2.out, HX.out, hxm, ← Bool.or_assoc, Hbf.out]; simp⟩, by simp [intOf]; omega⟩
                      · cases hxm : (x == mm)
                        · go_wp2_with fail
                          exact ⟨⟨r + 1, by omega, by go_num, by rw [H1.out, HX.out, hx0, ← Bool.or_assoc, Hbs.out]; simp, by rw [H2.out, HX.out, hxm, ← Bool.or_assoc, Hbf.out]; simp⟩, by simp [intOf]; omega⟩
                        · go_wp2_with fail
                          exact ⟨⟨r + 1, by omega, by go_num, by rw [H1.out, HX.out, hx0, ← Bool.or_assoc, Hbs.out]; simp, by rw [H2.out, HX.out, hxm, ← Bool.or_assoc, Hbf.out]; simp⟩, by simp [intOf]; omega⟩
                    · obtain rfl : r = p := by omega
                      have HT : Hid (ys.take r = ys) := List.take_of_length_le (by rw [HlY.out]; exact Nat.le_refl _)
                      have E1 : (bx || anyNZ (ys.take r)) = anyNZ (xs ++ ys) := by rw [HT.out, anyNZ_append, Hbx.out]
                      have E2 : (mx || anyEq (ys.take r) mm) = anyEq (xs ++ ys) mm := by rw [HT.out, anyEq_append, Hmx.out]
                      rw [E1, E2]
                      clear hx hy hlt HT E1 E2
                      cases hany : anyNZ (xs ++ ys) with
                      | false =>
                        have hz := of_none _ hany
                        rw [HW.out] at hz
                        have hz' : (mm == 0) = true := by simp [hz]
                        generalize anyEq (xs ++ ys) mm = bb at *
                        clear hz hany
                        go_wp2_with fail
                        go_ret
                        exact ⟨rfl, hb⟩
                      | true =>
                        have hf := member_of_some _ hany
                        have hn := (of_some _ hany).1
                        rw [HW.out] at hf hn
                        have hn' : (mm != 0) = true := by simp [hn]
                        rw [hf]
                        clear hf hn hany
                        go_wp2_with fail
                        go_ret
                        exact ⟨rfl, hb⟩

end Go.Proofs.Qxb6608527a.Tm
