import Derived.Test.Qxb6608526aDoorSpill
import Derived.Laws.CopyOwn
import Derived.Deep.OwnRows
namespace Go.Proofs.Qxb6608526aDoor.Spill
open Go.RowKit

theorem own_shape {w : World} {base e size n : Nat} {v : Value} {xs : List Value} (h : w.ownsRow base e size v n xs) : ∃ a c, v = .slice a n c := by
  rcases h.2 with ⟨rfl, rfl⟩ | ⟨g, c, _, rfl, _⟩
  · exact ⟨_, _, rfl⟩
  · exact ⟨_, _, rfl⟩

theorem getD_map8 (l : List Int) (j : Nat) (hj : j < l.length) : (l.map (Value.int .u8))[j]? = some (.int .u8 (l.getD j 0)) := by
  rw [List.getElem?_map, List.getElem?_eq_getElem hj, List.getD_eq_getElem?_getD, List.getElem?_eq_getElem hj]
  rfl

theorem splice_full {α : Type} (L cs : List α) (h : L.length = cs.length) : splice L 0 cs = cs := by
  simp [splice, ← h]

/-- A truncation: what is owned is cut at n. -/
theorem truncate_own (B base len n : Nat) (v : Value) (xs : List Value) (w : World) (h1 : w.cell? ⟨B, 1, none⟩ = some (.int .i64 0)) (h2 : w.cell? ⟨B, 2, none⟩ = some v) (f2 : w.frozen? ⟨B, 2, none⟩ = false)
    (hown : w.ownsRow base 5 1 v len xs) (hl : len ≤ 1048576) (hn : n ≤ len) :
    Calls Tryd.prog 8 #[.pointer (some ⟨B, 0, none⟩), .int .i64 n] w fun e w' => e = .returned (.tuple #[]) ∧ ∃ a c, w' = (w.setCell ⟨B, 2, none⟩ (.slice a n c)).drew ∧ w.ownsRow base 5 1 (.slice a n c) n (xs.take n) := by
  rcases hown.2 with ⟨rfl, rfl⟩ | ⟨g, cap, cur, rfl, hB, hg, hc, hm, hs, ht⟩
  · obtain rfl : n = 0 := by omega
    refine (truncate_nil B 0 rfl w h1 h2 f2).mono ?_
    rintro e w' ⟨rfl, rfl⟩
    exact ⟨rfl, none, 0, rfl, by simpa using World.ownsRow_nil w base 5 1⟩
  · refine (truncate B g len cap n w h1 h2 f2 (by omega) (by omega)).mono ?_
    rintro e w' ⟨rfl, rfl⟩
    have hlen := hown.1
    refine ⟨rfl, _, _, rfl, by simp [hlen]; omega, .inr ⟨g, cap, cur, rfl, hB, hg, by omega, hm, hs, ?_⟩⟩
    rw [← ht, List.take_take, Nat.mul_one, Nat.mul_one, Nat.min_eq_left hn]

/-- Fill of a row of the call's own as long as the stack: it holds the stack's bytes; below it nothing has turned. -/
theorem fill (B base d L : Nat) (v : Value) (xs cur : List Value) (w : World) (h1 : w.cell? ⟨B, 1, none⟩ = some (.int .i64 0)) (h2 : w.cell? ⟨B, 2, none⟩ = some v)
    (hown : w.ownsRow base 5 1 v L xs) (hx1 : ∀ u ∈ xs, u.oneCell' = true) (hL : L ≤ 1048576) (hd : w.heap[d]? = some (.cells cur.toArray 5 (0, 0))) (hcur : cur.length = L) :
    Calls Tryd.prog 10 #[.pointer (some ⟨B, 0, none⟩), .slice (some ⟨d, 0, none⟩) L L, .int .i64 0] w fun e w' => e = .returned .nilIface ∧ w'.heap[d]? = some (.cells xs.toArray 5 (0, 0)) ∧ Below d w w' := by
  have hL' : (L : Int) ≤ 1048576 := by omega
  have hxl : xs.length = L := by simpa using hown.1
  by_cases h0 : L = 0
  · obtain rfl : cur = [] := List.length_eq_zero_iff.1 (by omega)
    obtain rfl : xs = [] := List.length_eq_zero_iff.1 (by omega)
    have hL0 : (L : Int) ≤ 0 := by omega
    clear hown hx1 hxl hcur h0
    go_enter Tryd.func10, Tryd.ntmps10
    go_wp2
    go_ret
    exact ⟨rfl, hd, Below.refl _ _⟩
  · have hpos : (0 : Int) < (L : Int) := by omega
    obtain ⟨g, cap, hv⟩ : ∃ g cap, v = .slice (some ⟨g, 0, none⟩) L cap := by
      rcases hown.2 with ⟨_, hn⟩ | ⟨g, cap, _, hv, _⟩
      · exact absurd hn h0
      · exact ⟨g, cap, hv⟩
    subst hv
    have hsrc := hown.cells (g := g) rfl
    have hcap : L ≤ cap := by
      rcases hown.2 with ⟨_, hn⟩ | ⟨g', cap', _, hv, _, _, hc, _⟩
      · exact absurd hn h0
      · simp only [Value.slice.injEq] at hv
        omega
    have hcap' : (L : Int) ≤ (cap : Int) := by omega
    have Hd : Hid (w.heap[d]? = some (.cells cur.toArray 5 (0, 0))) := hd
    have Hs : Hid (∀ j u, xs[j]? = some u → w.cell? ((⟨g, 0, none⟩ : Addr).add j) = some u) := hsrc
    have Hx : Hid (xs.length = L) := hxl
    have Hc : Hid (cur.length = L) := hcur
    have hw0 : IntKind.i64.wrap 0 = 0 := by decide
    have hL0 : (0 : Int) ≤ (L : Int) := by omega
    clear hown hd hsrc hxl hcur h0
    go_enter Tryd.func10, Tryd.ntmps10
    go_wp2
    go_region_law (refine step_copy_splice rfl (.tmp 45) (.tmp 56) 22 22 rfl 5 Tryd.underlying22 (by kernel_rfl) (some ⟨d, 0, none⟩) (some ⟨g, 0, none⟩) L L L cap (by simp [Act.eval, Act.put]) (by simp [Act.eval, Act.put]) d 0 cur 5 Hd.out xs (by rw [Hx.out]; simp) (fun _ => ⟨rfl, _, rfl, Hs.out⟩) (by rw [Hx.out, Hc.out]; omega) hx1 d w (Below.refl _ _).drew (Nat.le_refl _) ?_; intro w4 hg4 hb4)
    all_goals
      go_wp2
      go_ret
      refine ⟨rfl, ?_, hb4⟩
      rw [← splice_full cur xs (Hc.out.trans Hx.out.symm)]
      exact hg4.out

theorem early1 (ao bo : Option Addr) (la ca lb cb : Nat) (m n : Int) (w : World) (hs : ¬ la + lb ≤ 1048576) :
    Calls Tryd.prog 3 #[.slice ao la ca, .slice bo lb cb, .int .i64 m, .int .i64 n] w fun e w' => e = .returned (.bool true) ∧ w' = w := by
  have hd : decide (la + lb ≤ 1048576) = false := by simp [hs]
  go_enter Tryd.func3, Tryd.ntmps3
  go_wp2_with (go_at_call 4; refine (bytes4 _ _ _ _ _ _ _ _ _).mono ?_; rintro e w' ⟨rfl, rfl⟩)
  go_ret
  exact ⟨rfl, rfl⟩

theorem early2 (ao bo : Option Addr) (la ca lb cb : Nat) (m n : Int) (w : World) (hs : la + lb ≤ 1048576) (hn : n < 0 ∨ m < n ∨ (la : Int) < m) :
    Calls Tryd.prog 3 #[.slice ao la ca, .slice bo lb cb, .int .i64 m, .int .i64 n] w fun e w' => e = .returned (.bool true) ∧ w' = w := by
  have hd : decide (la + lb ≤ 1048576) = true := by simp [hs]
  have g1 : (la : Int) ≤ 1048576 := by omega
  have g2 : (lb : Int) ≤ 1048576 - (la : Int) := by omega
  by_cases h1 : n < 0
  · go_enter Tryd.func3, Tryd.ntmps3
    go_wp2_with (go_at_call 4; refine (bytes4 _ _ _ _ _ _ _ _ _).mono ?_; rintro e w' ⟨rfl, rfl⟩)
    go_ret
    exact ⟨rfl, rfl⟩
  · by_cases h2 : m < n
    · go_enter Tryd.func3, Tryd.ntmps3
      go_wp2_with (go_at_call 4; refine (bytes4 _ _ _ _ _ _ _ _ _).mono ?_; rintro e w' ⟨rfl, rfl⟩)
      go_ret
      exact ⟨rfl, rfl⟩
    · have h3 : (la : Int) < m := by omega
      clear hn
      go_enter Tryd.func3, Tryd.ntmps3
      go_wp2_with (go_at_call 4; refine (bytes4 _ _ _ _ _ _ _ _ _).mono ?_; rintro e w' ⟨rfl, rfl⟩)
      go_ret
      exact ⟨rfl, rfl⟩

theorem main (ao bo : Option Addr) (la ca lb cb : Nat) (xs ys : List Int) (m n : Nat) (w : World) (ha : Bytes w ao la ca xs) (hb : Bytes w bo lb cb ys) (hs : la + lb ≤ 1048576) (hm : m ≤ la) (hn : n ≤ m) :
    Calls Tryd.prog 3 #[.slice ao la ca, .slice bo lb cb, .int .i64 m, .int .i64 n] w fun e w' => e = .returned (.bool true) ∧ Below w.heap.size w w' := by
  have hd : decide (la + lb ≤ 1048576) = true := by simp [hs]
  have g1 : (la : Int) ≤ 1048576 := by omega
  have g2 : (lb : Int) ≤ 1048576 - (la : Int) := by omega
  have g3 : (m : Int) ≤ (la : Int) := by omega
  have g4 : (n : Int) ≤ (m : Int) := by omega
  go_enter Tryd.func3, Tryd.ntmps3
  go_wp2_with (first
    | (go_at_call 4; refine (bytes4 _ _ _ _ _ _ _ _ _).mono ?_; rintro e w ⟨rfl, rfl⟩)
    | (go_at_call 5; refine (new19 _).mono ?_; rintro e w1 ⟨rfl, hb1⟩))
  have st2 : St w (w1.alloc (.cells #[.nilIface, .int .i64 0, .slice none 0 0, .nilIface] 29)) w1.heap.size (.slice none 0 0) := St.new hb1
  have own2 := World.ownsRow_nil (w1.alloc (.cells #[.nilIface, .int .i64 0, .slice none 0 0, .nilIface] 29)) (w1.heap.size + 1) 5 1
  have hz2 : w1.heap.size + 1 ≤ (w1.alloc (.cells #[.nilIface, .int .i64 0, .slice none 0 0, .nilIface] 29)).heap.size := by simp
  generalize w1.alloc (.cells #[.nilIface, .int .i64 0, .slice none 0 0, .nilIface] 29) = w2 at *
  generalize w1.heap.size = B at *
  clear hb1
  refine (buffer B _ w2 st2.c2).mono ?_
  rintro e w2 ⟨rfl, rfl⟩
  go_wp2_with (at_builtin; refine wpList_append_bytes rfl _ _ rfl (B + 1) _ 0 [] rfl own2 ao la ca xs rfl (ha.below st2.below) (by omega) hz2 ?_; intro v3 w3 own3 hg3; obtain ⟨a3, c3, rfl⟩ := own_shape own3)
  have st3 := st2.grown hg3 (fun k e => by cases (show (none : Option Nat) = some k from e))
  have hz3 : B + 1 ≤ w3.heap.size := Nat.le_trans hz2 hg3.size
  refine (commit B _ _ _ w3 _ st3.c0 st3.c2 st3.c3 st3.f2).mono ?_
  rintro e w4 ⟨rfl, hw4⟩
  have st4 : St w w4 B _ := hw4 ▸ st3.put _
  have own4 : w4.ownsRow (B + 1) 5 1 (.slice a3 la c3) la (xs.map (Value.int .u8)) := by
    have := ownsRow_setCell_below own3 (a := ⟨B, 2, none⟩) (by simp) (.slice a3 la c3)
    rw [hw4]
    simpa using this
  have hz4 : B + 1 ≤ w4.heap.size := by rw [hw4]; simpa using hz3
  clear hw4 st3 own3 hg3 st2 own2 hz2 hz3
  go_wp2_with fail
  refine (truncate_own B (B + 1) la m _ _ w4 st4.c1 st4.c2 st4.f2 own4 (by omega) hm).mono ?_
  rintro e w5 ⟨rfl, a5, c5, hw5, own5'⟩
  have st5 : St w w5 B (.slice a5 m c5) := hw5 ▸ (st4.put _).drew
  have own5 : w5.ownsRow (B + 1) 5 1 (.slice a5 m c5) m ((xs.map (Value.int .u8)).take m) := hw5 ▸ ownsRow_setCell_below own5' (a := ⟨B, 2, none⟩) (by simp) _
  have hz5 : B + 1 ≤ w5.heap.size := by rw [hw5]; simpa using hz4
  clear hw5 own5' st4 own4 hz4
  go_wp2_with fail
  refine (size B _ _ _ w5 st5.c1 st5.c2 (by omega)).mono ?_
  rintro e w6 ⟨rfl, q6, hw6⟩
  have st6 : St w w6 B (.slice a5 m c5) := hw6 ▸ st5.drewN q6
  have own6 : w6.ownsRow (B + 1) 5 1 (.slice a5 m c5) m ((xs.map (Value.int .u8)).take m) := hw6 ▸ own5
  have hz6 : B + 1 ≤ w6.heap.size := by rw [hw6]; exact hz5
  clear hw6 st5 own5 hz5
  go_wp2_with fail
  refine (truncate_own B (B + 1) m n _ _ w6 st6.c1 st6.c2 st6.f2 own6 (by omega) hn).mono ?_
  rintro e w7 ⟨rfl, a7, c7, hw7, own7'⟩
  have st7 : St w w7 B (.slice a7 n c7) := hw7 ▸ (st6.put _).drew
  have own7 : w7.ownsRow (B + 1) 5 1 (.slice a7 n c7) n ((xs.map (Value.int .u8)).take n) := by
    have := ownsRow_setCell_below own7' (a := ⟨B, 2, none⟩) (by simp) (.slice a7 n c7)
    rw [List.take_take, Nat.min_eq_left hn] at this
    rw [hw7]
    exact this
  have hz7 : B + 1 ≤ w7.heap.size := by rw [hw7]; simpa using hz6
  clear hw7 own7' st6 own6 hz6
  go_wp2_with fail
  refine (size B _ _ _ w7 st7.c1 st7.c2 (by omega)).mono ?_
  rintro e w8 ⟨rfl, q8, hw8⟩
  have st8 : St w w8 B (.slice a7 n c7) := hw8 ▸ st7.drewN q8
  have own8 : w8.ownsRow (B + 1) 5 1 (.slice a7 n c7) n ((xs.map (Value.int .u8)).take n) := hw8 ▸ own7
  have hz8 : B + 1 ≤ w8.heap.size := by rw [hw8]; exact hz7
  clear hw8 st7 own7 hz7
  go_wp2_with fail
  refine (buffer B _ w8 st8.c2).mono ?_
  rintro e w8 ⟨rfl, rfl⟩
  go_wp2_with (at_builtin; refine wpList_append_bytes rfl _ _ rfl (B + 1) _ n ((xs.map (Value.int .u8)).take n) rfl own8 bo lb cb ys rfl (hb.below st8.below) (by omega) hz8 ?_; intro v9 w9 own9 hg9; obtain ⟨a9, c9, rfl⟩ := own_shape own9)
  have st9 := st8.grown hg9 (fun k e => (own8.lt k e).1)
  have hz9 : B + 1 ≤ w9.heap.size := Nat.le_trans hz8 hg9.size
  refine (commit B _ _ _ w9 _ st9.c0 st9.c2 st9.c3 st9.f2).mono ?_
  rintro e w10 ⟨rfl, hw10⟩
  have st10 : St w w10 B (.slice a9 (n + lb) c9) := hw10 ▸ st9.put _
  have own10 : w10.ownsRow (B + 1) 5 1 (.slice a9 (n + lb) c9) (n + lb) ((xs.map (Value.int .u8)).take n ++ ys.map (Value.int .u8)) := hw10 ▸ ownsRow_setCell_below own9 (a := ⟨B, 2, none⟩) (by simp) _
  clear hw10 st9 own9 hg9 st8 own8 hz8 hz9
  go_wp2_with fail
  refine (size B _ _ _ w10 st10.c1 st10.c2 (by omega)).mono ?_
  rintro e w11 ⟨rfl, q11, hw11⟩
  have st11 : St w w11 B (.slice a9 (n + lb) c9) := hw11 ▸ st10.drewN q11
  have own11 : w11.ownsRow (B + 1) 5 1 (.slice a9 (n + lb) c9) (n + lb) ((xs.map (Value.int .u8)).take n ++ ys.map (Value.int .u8)) := hw11 ▸ own10
  clear hw11 st10 own10
  obtain ⟨i0, hi, hi0, hi1, hi2⟩ := info_parts info5
  have hlo : w.heap.size ≤ w11.heap.size := st11.below.size
  go_wp2_with (at_make; refine wpList_make_full _ rfl _ _ 22 rfl (B + 1) 5 i0 (.int .u8 0) 1 Tryd.underlying22 hi hi0 hi1 .i64 .i64 _ _ (n + lb) rfl rfl (by omega) (by omega) (by rw [hi2]; omega) (by unfold maxLen; omega) (Nat.le_trans (Nat.succ_le_of_lt st11.hi) (Nat.le_refl _)) ?_; intro w12 made12 hg12)
  clear hi hi0 hi1 hi2
  have st12 := st11.grown hg12 (fun k e => by cases e)
  have own12 := own11.kept hg12 (by cases (Value.slice a9 (n + lb) c9).ownBlock <;> simp)
  obtain ⟨cur, hcur, hcl⟩ : ∃ cur : List Value, w12.heap[w11.heap.size]? = some (.cells cur.toArray 5 (0, 0)) ∧ cur.length = n + lb := by
    rcases made12.2 with ⟨h, _⟩ | ⟨g', c', cur, h, _, hh, _, _, hsz, _⟩
    · cases h
    · simp only [Value.slice.injEq, Option.some.injEq, Addr.mk.injEq] at h
      obtain ⟨⟨rfl, _⟩, _, rfl⟩ := h
      exact ⟨cur.toList, by simpa using hh, by simpa using hsz⟩
  have h11 : w11.heap.size ≤ w12.heap.size := hg12.size
  generalize w11.heap.size = d at *
  clear made12 hg12 st11 own11
  refine (fill B (B + 1) d (n + lb) _ _ cur w12 st12.c1 st12.c2 own12 ?_ (by omega) hcur hcl).mono ?_
  · intro u hu
    rcases List.mem_append.1 hu with hu | hu
    · obtain ⟨_, _, rfl⟩ := List.mem_map.1 (List.mem_of_mem_take hu)
      rfl
    · obtain ⟨_, _, rfl⟩ := List.mem_map.1 hu
      rfl
  rintro e w13 ⟨rfl, hgot, hb13⟩
  have hbel : Below w.heap.size w w13 := st12.below.trans (hb13.mono hlo)
  have ha' := ha.below hbel
  have hb' := hb.below hbel
  have hcell : ∀ j, w13.cell? ⟨d, j, none⟩ = ((xs.map (Value.int .u8)).take n ++ ys.map (Value.int .u8))[j]? := fun j => by rw [cell_of_row w13 d j _ 5 (0, 0) hgot]; simp
  have Hcell : Hid (∀ j, w13.cell? ⟨d, j, none⟩ = ((xs.map (Value.int .u8)).take n ++ ys.map (Value.int .u8))[j]?) := hcell
  clear hgot hb13 st12 own12 hcur hcl h11 hlo ha hb hcell
  have hln : ((xs.map (Value.int .u8)).take n).length = n := by simp [ha'.1]; omega
  have Hln : Hid (((xs.map (Value.int .u8)).take n).length = n) := hln
  clear hln
  go_wp2_with fail
  go_loopw [12] (fun i wr => ∃ k : Nat, k ≤ n ∧ i = .int .i64 k ∧ ∃ q, wr = w13.drewN q) (fun i _ => n - (intOf i).toNat)
  case atStart => exact ⟨0, Nat.zero_le _, rfl, 0, rfl⟩
  case round =>
    obtain ⟨k, hk, rfl, q, rfl⟩ := hrel
    by_cases hlt : k < n
    · have hg := Hcell.out k
      rw [List.getElem?_append_left (by rw [Hln.out]; exact hlt), List.getElem?_take_of_lt hlt, getD_map8 xs k (by rw [ha'.1]; omega)] at hg
      obtain ⟨b, off, e, hc⟩ := ha'.2.resolve_left (fun h => by omega)
      have hca := hc k (by omega)
      have i1 : (k : Int) < (n : Int) := by omega
      have i2 : (k : Int) < (la : Int) := by omega
      have i3 : (k : Int) < (n : Int) + (lb : Int) := by omega
      clear hc ha' hb'
      subst e
      go_wp2
      go_quiet (fail)
      go_wp2
      exact ⟨⟨k + 1, by omega, by go_num, _, rfl⟩, by simp [intOf]; omega⟩
    · go_wp2
      go_loopw [13] (fun i wr => ∃ k : Nat, k ≤ lb ∧ i = .int .i64 k ∧ ∃ q, wr = w13.drewN q) (fun i _ => lb - (intOf i).toNat)
      case atStart => exact ⟨0, Nat.zero_le _, rfl, q, rfl⟩
      case round =>
        obtain ⟨j, hj, rfl, q2, rfl⟩ := hrel
        by_cases hjl : j < lb
        · have hg := Hcell.out (n + j)
          rw [List.getElem?_append_right (by rw [Hln.out]; omega), Hln.out, Nat.add_sub_cancel_left, getD_map8 ys j (by rw [hb'.1]; omega)] at hg
          obtain ⟨b, off, e, hc⟩ := hb'.2.resolve_left (fun h => by omega)
          have hcb := hc j (by omega)
          have i2 : (j : Int) < (lb : Int) := by omega
          have i3 : (n : Int) + (j : Int) < (n : Int) + (lb : Int) := by omega
          have i4 : ((n : Int) + (j : Int)).toNat = n + j := by omega
          clear hc ha' hb'
          subst e
          go_wp2
          go_quiet (fail)
          go_wp2
          exact ⟨⟨j + 1, by omega, by go_num, _, rfl⟩, by simp [intOf]; omega⟩
        · go_wp2
          go_ret
          exact ⟨rfl, hbel.os, hbel.tape, hbel.output, hbel.size, hbel.block⟩

end Go.Proofs.Qxb6608526aDoor.Spill
