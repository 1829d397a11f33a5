import Derived.Test.Qxb6608526aSpill
namespace Go.Proofs.Qxb6608526a.Spill
open Go.RowKit

theorem own_shape {w : World} {base e size n : Nat} {v : Value} {xs : List Value} (h : w.ownsRow base e size v n xs) : ∃ a c, v = .slice a n c := by
  rcases h.2 with ⟨rfl, rfl⟩ | ⟨g, c, _, rfl, _⟩
  · exact ⟨_, _, rfl⟩
  · exact ⟨_, _, rfl⟩

theorem getD_map8 (l : List Int) (j : Nat) (hj : j < l.length) : (l.map (Value.int .u8))[j]? = some (.int .u8 (l.getD j 0)) := by
  rw [List.getElem?_map, List.getElem?_eq_getElem hj, List.getD_eq_getElem?_getD, List.getElem?_eq_getElem hj]
  rfl

theorem early1 (ao bo : Option Addr) (la ca lb cb : Nat) (n : Int) (w : World) (hs : ¬ la + lb ≤ 1048576) :
    Calls Try.prog 7 #[.slice ao la ca, .slice bo lb cb, .int .i64 n] w fun e w' => e = .returned (.bool true) ∧ w' = w := by
  have hd : decide (la + lb ≤ 1048576) = false := by simp [hs]
  go_enter Try.func7, Try.ntmps7
  go_wp2_with (go_at_call 18; refine (bytes18 _ _ _ _ _ _ _ _).mono ?_; rintro e w' ⟨rfl, rfl⟩)
  go_ret
  exact ⟨rfl, rfl⟩

theorem early2 (ao bo : Option Addr) (la ca lb cb : Nat) (n : Int) (w : World) (hs : la + lb ≤ 1048576) (hn : n < 0 ∨ (la : Int) + (lb : Int) < n) :
    Calls Try.prog 7 #[.slice ao la ca, .slice bo lb cb, .int .i64 n] w fun e w' => e = .returned (.bool true) ∧ w' = w := by
  have hd : decide (la + lb ≤ 1048576) = true := by simp [hs]
  have g1 : (la : Int) ≤ 1048576 := by omega
  have g2 : (lb : Int) ≤ 1048576 - (la : Int) := by omega
  rcases hn with hn | hn
  · go_enter Try.func7, Try.ntmps7
    go_wp2_with (go_at_call 18; refine (bytes18 _ _ _ _ _ _ _ _).mono ?_; rintro e w' ⟨rfl, rfl⟩)
    go_ret
    exact ⟨rfl, rfl⟩
  · have h0 : ¬ n < 0 := by omega
    go_enter Try.func7, Try.ntmps7
    go_wp2_with (go_at_call 18; refine (bytes18 _ _ _ _ _ _ _ _).mono ?_; rintro e w' ⟨rfl, rfl⟩)
    go_ret
    exact ⟨rfl, rfl⟩

theorem main (ao bo : Option Addr) (la ca lb cb : Nat) (xs ys : List Int) (m : Nat) (w : World) (ha : Bytes w ao la ca xs) (hb : Bytes w bo lb cb ys) (hs : la + lb ≤ 1048576) (hm : m ≤ la + lb) :
    Calls Try.prog 7 #[.slice ao la ca, .slice bo lb cb, .int .i64 m] w fun e w' => e = .returned (.bool true) ∧ Below w.heap.size w w' := by
  have hd : decide (la + lb ≤ 1048576) = true := by simp [hs]
  have g1 : (la : Int) ≤ 1048576 := by omega
  have g2 : (lb : Int) ≤ 1048576 - (la : Int) := by omega
  have g3 : (m : Int) ≤ (la : Int) + (lb : Int) := by omega
  go_enter Try.func7, Try.ntmps7
  go_wp2_with (first
    | (go_at_call 18; refine (bytes18 _ _ _ _ _ _ _ _).mono ?_; rintro e w ⟨rfl, rfl⟩)
    | (go_at_call 19; refine (new19 _).mono ?_; rintro e w1 ⟨rfl, hb1⟩))
  have st2 : St w (w1.alloc (.cells #[.nilIface, .int .i64 0, .slice none 0 0, .nilIface] 42)) w1.heap.size (.slice none 0 0) := St.new hb1
  have own2 := World.ownsRow_nil (w1.alloc (.cells #[.nilIface, .int .i64 0, .slice none 0 0, .nilIface] 42)) (w1.heap.size + 1) 5 1
  have hz2 : w1.heap.size + 1 ≤ (w1.alloc (.cells #[.nilIface, .int .i64 0, .slice none 0 0, .nilIface] 42)).heap.size := by simp
  generalize w1.alloc (.cells #[.nilIface, .int .i64 0, .slice none 0 0, .nilIface] 42) = w2 at *
  generalize w1.heap.size = B at *
  clear hb1
  refine (buffer B _ w2 st2.c2).mono ?_
  rintro e w2 ⟨rfl, rfl⟩
  go_wp2_with (at_builtin; refine wpList_append_bytes rfl _ _ rfl (B + 1) _ 0 [] rfl own2 ao la ca xs rfl (ha.below st2.below) (by omega) hz2 ?_; intro v3 w3 own3 hg3; obtain ⟨a3, c3, rfl⟩ := own_shape own3)
  have st3 := st2.grown hg3 (fun k e => by cases (show (none : Option Nat) = some k from e))
  have hz3 : B + 1 ≤ w3.heap.size := Nat.le_trans hz2 hg3.size
  refine (commit B _ _ _ w3 _ st3.c0 st3.c2 st3.c3 st3.f2).mono ?_
  rintro e w4 ⟨rfl, hw4⟩
  have st4 : St w w4 B _ := hw4 ▸ st3.put _
  have own4 : w4.ownsRow (B + 1) 5 1 (.slice a3 la c3) la (xs.map (Value.int .u8)) := by
    have := ownsRow_setCell_below own3 (a := ⟨B, 2, none⟩) (by simp) (.slice a3 la c3)
    rw [hw4]
    simpa using this
  have hz4 : B + 1 ≤ w4.heap.size := by rw [hw4]; simpa using hz3
  clear hw4 st3 own3 hg3 st2 own2 hz2 hz3
  go_wp2_with fail
  refine (buffer B _ w4 st4.c2).mono ?_
  rintro e w4 ⟨rfl, rfl⟩
  go_wp2_with (at_builtin; refine wpList_append_bytes rfl _ _ rfl (B + 1) _ la (xs.map (Value.int .u8)) rfl own4 bo lb cb ys rfl (hb.below st4.below) hs hz4 ?_; intro v5 w5 own5 hg5; obtain ⟨a5, c5, rfl⟩ := own_shape own5)
  have st5 := st4.grown hg5 (fun k e => (own4.lt k e).1)
  have hz5 : B + 1 ≤ w5.heap.size := Nat.le_trans hz4 hg5.size
  refine (commit B _ _ _ w5 _ st5.c0 st5.c2 st5.c3 st5.f2).mono ?_
  rintro e w6 ⟨rfl, hw6⟩
  have st6 : St w w6 B (.slice a5 (la + lb) c5) := hw6 ▸ st5.put _
  have own6 : w6.ownsRow (B + 1) 5 1 (.slice a5 (la + lb) c5) (la + lb) (xs.map (Value.int .u8) ++ ys.map (Value.int .u8)) := hw6 ▸ ownsRow_setCell_below own5 (a := ⟨B, 2, none⟩) (by simp) _
  clear hw6 st5 own5 hg5 st4 own4 hz4 hz5
  go_wp2_with fail
  refine (size B _ _ _ w6 st6.c1 st6.c2 hs).mono ?_
  rintro e w7 ⟨rfl, q, hw7⟩
  have st7 : St w w7 B (.slice a5 (la + lb) c5) := hw7 ▸ st6.drewN q
  have own7 : w7.ownsRow (B + 1) 5 1 (.slice a5 (la + lb) c5) (la + lb) (xs.map (Value.int .u8) ++ ys.map (Value.int .u8)) := hw7 ▸ own6
  clear hw7 st6 own6
  go_wp2_with fail
  rcases own7.2 with ⟨hv, h0⟩ | ⟨g, cap, cur, hv, hBg, hg, hle, _, _, _⟩
  · simp only [Value.slice.injEq] at hv
    obtain ⟨rfl, _, rfl⟩ := hv
    have hm0 : m = 0 := by omega
    have c2 := st7.c2
    rw [h0] at c2
    refine (truncate_nil B m hm0 w7 st7.c1 c2 st7.f2).mono ?_
    rintro e w8 ⟨rfl, hw8⟩
    have st8 : St w w8 B (.slice none 0 0) := hw8 ▸ (st7.put _).drew
    clear hw8 st7 own7 c2
    have hm1 : (m : Int) ≤ 0 := by omega
    have Hm : Hid (m = 0) := hm0
    clear hm0 h0
    go_wp2_with fail
    refine (size B _ _ _ w8 st8.c1 st8.c2 (by omega)).mono ?_
    rintro e w9 ⟨rfl, q9, hw9⟩
    have st9 : St w w9 B (.slice none 0 0) := hw9 ▸ st8.drewN q9
    clear hw9 st8
    go_wp2_with fail
    refine (inMemory_nil B m Hm.out w9 st9.c1 st9.c2).mono ?_
    rintro e w10 ⟨rfl, q10, hw10⟩
    have st10 : St w w10 B (.slice none 0 0) := hw10 ▸ st9.drewN q10
    clear hw10 st9
    go_wp2_with fail
    go_loop [12, 13] (fun i _ => i = .int .i64 0) (fun _ _ => 0)
    case atStart => exact rfl
    case round =>
      obtain rfl := hrel
      go_wp2
      go_ret
      exact ⟨rfl, st10.below⟩
  · simp only [Value.slice.injEq] at hv
    obtain ⟨rfl, _, rfl⟩ := hv
    refine (truncate B g _ _ m w7 st7.c1 st7.c2 st7.f2 (by omega) (by omega)).mono ?_
    rintro e w8 ⟨rfl, hw8⟩
    have st8 : St w w8 B (.slice (some ⟨g, 0, none⟩) m c5) := hw8 ▸ (st7.put _).drew
    have own8 : w8.ownsRow (B + 1) 5 1 (.slice (some ⟨g, 0, none⟩) (la + lb) c5) (la + lb) (xs.map (Value.int .u8) ++ ys.map (Value.int .u8)) := hw8 ▸ ownsRow_setCell_below own7 (a := ⟨B, 2, none⟩) (by simp) _
    clear hw8 st7 own7 hg
    go_wp2_with fail
    refine (size B _ _ _ w8 st8.c1 st8.c2 (by omega)).mono ?_
    rintro e w9 ⟨rfl, q9, hw9⟩
    have st9 : St w w9 B (.slice (some ⟨g, 0, none⟩) m c5) := hw9 ▸ st8.drewN q9
    have own9 : w9.ownsRow (B + 1) 5 1 (.slice (some ⟨g, 0, none⟩) (la + lb) c5) (la + lb) (xs.map (Value.int .u8) ++ ys.map (Value.int .u8)) := hw9 ▸ own8
    clear hw9 st8 own8
    go_wp2_with fail
    refine (inMemory B g _ _ m w9 st9.c1 st9.c2 (by omega) (by omega)).mono ?_
    rintro e w10 ⟨rfl, q10, hw10⟩
    have st10 : St w w10 B (.slice (some ⟨g, 0, none⟩) m c5) := hw10 ▸ st9.drewN q10
    have own10 : w10.ownsRow (B + 1) 5 1 (.slice (some ⟨g, 0, none⟩) (la + lb) c5) (la + lb) (xs.map (Value.int .u8) ++ ys.map (Value.int .u8)) := hw10 ▸ own9
    clear hw10 st9 own9
    go_wp2_with fail
    have ha' := ha.below st10.below
    have hb' := hb.below st10.below
    have hbel := st10.below
    clear st10 ha hb
    go_loop [12, 13] (fun i _ => ∃ k : Nat, k ≤ m ∧ i = .int .i64 k) (fun i _ => m - (intOf i).toNat)
    case atStart => exact ⟨0, Nat.zero_le _, rfl⟩
    case round =>
      obtain ⟨k, hk, rfl⟩ := hrel
      by_cases hlt : k < m
      · have hgot : w10.cell? ⟨g, k, none⟩ = (xs.map (Value.int .u8) ++ ys.map (Value.int .u8))[k]? := own10.cellAt k (by omega)
        have hkm : (k : Int) < (m : Int) := by omega
        by_cases hka : k < la
        · have hka' : (k : Int) < (la : Int) := by omega
          obtain ⟨b, off, e, hc⟩ := ha'.2.resolve_left (fun h => by omega)
          have hca := hc k hka
          have hx := getD_map8 xs k (by rw [ha'.1]; exact hka)
          rw [List.getElem?_append_left (by simp [ha'.1]; exact hka), hx] at hgot
          clear hc hx ha' hb'
          subst e
          go_wp2
          exact ⟨⟨k + 1, by omega, by go_num⟩, by simp [intOf]; omega⟩
        · obtain ⟨j, rfl⟩ : ∃ j, k = la + j := ⟨k - la, by omega⟩
          have hjb : (j : Int) < (lb : Int) := by omega
          obtain ⟨b, off, e, hc⟩ := hb'.2.resolve_left (fun h => by omega)
          have hcb := hc j (by omega)
          have hy := getD_map8 ys j (by rw [hb'.1]; omega)
          rw [List.getElem?_append_right (by simp [ha'.1])] at hgot
          simp only [List.length_map, ha'.1, Nat.add_sub_cancel_left] at hgot
          rw [hy] at hgot
          have hnl : ¬ (la : Int) + (j : Int) < (la : Int) := by omega
          clear hc hy ha' hb'
          subst e
          go_wp2
          exact ⟨⟨la + j + 1, by omega, by go_num⟩, by simp [intOf]; omega⟩
      · go_wp2
        go_ret
        exact ⟨rfl, hbel⟩

end Go.Proofs.Qxb6608526a.Spill
