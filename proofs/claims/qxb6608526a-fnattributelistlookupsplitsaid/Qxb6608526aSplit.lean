import Derived.Test.Qxb6608526aAttr4
import Derived.Outline
namespace Go.Proofs.Qxb6608526a.Attr
open Go.RowKit Names
set_option linter.unusedVariables false

theorem info9 : (Try.prog.info? 9).map (fun i => (i.zero, i.size, i.bytes)) = some (some (.string ByteArray.empty), 1, 16) := by kernel_rfl
theorem size9 : (Try.prog.info? 9).map (·.size) = some 1 := by kernel_rfl

theorem strs_src {w : World} {a : Addr} {n c : Nat} {ss : List ByteArray} (hs : Strs w (some a) n c ss) (h : 0 < (ss.map Value.string).length) : ∃ ad, (some a : Option Addr) = some ad ∧ ∀ j v, (ss.map Value.string)[j]? = some v → w.cell? (ad.add j) = some v := by
  obtain ⟨b, off, e, _, hc⟩ := hs.at (by rw [← hs.1]; simpa using h)
  refine ⟨⟨b, off, none⟩, e, fun j v hv => ?_⟩
  rw [List.getElem?_map] at hv
  obtain ⟨s, hs', rfl⟩ := Option.map_eq_some_iff.1 hv
  obtain ⟨hj, rfl⟩ := List.getElem?_eq_some_iff.1 hs'
  rw [Addr.add_lit]
  exact hc j hj

/-- Behind the copy: our own row of the same strings. -/
theorem own_of_row {w : World} {d n : Nat} {ss : List ByteArray} {cur : List Value} (hn : ss.length = n) (hcur : cur.length = n) (h : w.heap[d]? = some (.cells (splice cur 0 (ss.map Value.string)).toArray 9 (0, 0))) : Own w (some ⟨d, 0, none⟩) n ss := by
  have e : splice cur 0 (ss.map Value.string) = ss.map Value.string := by simp [splice, hcur, hn]
  rw [e] at h
  refine ⟨⟨hn, Nat.le_refl _, .inr ⟨d, 0, rfl, fun j hj => ?_⟩⟩, .inr ⟨d, rfl⟩⟩
  rw [cell_of_row w d (0 + j) _ 9 (0, 0) h]
  simp [hj]

theorem made_row {w : World} {base e d n : Nat} {xs : List Value} (h : w.ownsRow base e 1 (.slice (some ⟨d, 0, none⟩) n n) n xs) : ∃ cur : List Value, w.heap[d]? = some (.cells cur.toArray e (0, 0)) ∧ cur.length = n := by
  rcases h.2 with ⟨h, _⟩ | ⟨g', c', cur, h, _, hh, _, _, hsz, _⟩
  · cases h
  · simp only [Value.slice.injEq, Option.some.injEq, Addr.mk.injEq] at h
    obtain ⟨⟨rfl, _⟩, _, rfl⟩ := h
    exact ⟨cur.toList, by simpa using hh, by simpa using hsz⟩

theorem own_nil {w : World} {ss : List ByteArray} (h : ss.length = 0) : Own w none 0 ss := ⟨⟨h, Nat.le_refl _, .inl ⟨rfl, fun _ => rfl⟩⟩, .inl ⟨rfl, rfl⟩⟩

theorem one_strings (ss : List ByteArray) : ∀ v ∈ ss.map Value.string, v.oneCell' = true := by
  intro v hv
  obtain ⟨_, _, rfl⟩ := List.mem_map.1 hv
  rfl

theorem Sorted.take {l : List (ByteArray × ByteArray)} (h : Sorted l) (k : Nat) : Sorted (l.take k) := List.Pairwise.sublist (List.take_sublist k l) h
theorem Sorted.drop {l : List (ByteArray × ByteArray)} (h : Sorted l) (k : Nat) : Sorted (l.drop k) := List.Pairwise.sublist (List.drop_sublist k l) h
theorem mem_split {l : List (ByteArray × ByteArray)} (k : Nat) (q : ByteArray × ByteArray) : q ∈ l ↔ q ∈ l.take k ∨ q ∈ l.drop k := by
  rw [← List.mem_append, List.take_append_drop]
theorem Sorted.not_both {l : List (ByteArray × ByteArray)} (h : Sorted l) (k : Nat) (q : ByteArray × ByteArray) (h1 : q ∈ l.take k) (h2 : q ∈ l.drop k) : False := by
  have := h
  unfold Sorted at this
  rw [← List.take_append_drop k l, List.pairwise_append] at this
  have h3 := this.2.2 q h1 q h2
  rw [cmpN_refl] at h3
  omega

theorem below_drewN' (w : World) (q : Nat) : Below w.heap.size w (w.drewN q) := ⟨rfl, rfl, rfl, Nat.le_refl _, fun _ _ => rfl⟩

theorem zip_take (ss ls : List ByteArray) (N : Nat) : (ss.take N).zip (ls.take N) = (ss.zip ls).take N := by
  simp [List.zip, List.take_zipWith]

theorem zip_drop (ss ls : List ByteArray) (N C : Nat) : ((ss.take N).drop C).zip ((ls.take N).drop C) = ((ss.zip ls).take N).drop C := by
  simp [List.zip, List.take_zipWith, List.drop_zipWith]

set_option maxHeartbeats 4000000 in
set_option maxRecDepth 100000 in
theorem split_law (so lo : Option Addr) (n c m d : Nat) (ss ls : List ByteArray) (k : Int) (qs ql : ByteArray) (w : World) (hs : Strs w so n c ss) (hl : Strs w lo m d ls) :
    Calls Try.prog 6 #[.slice so n c, .slice lo m d, .int .i64 k, .string qs, .string ql] w fun e w' => e = .returned (.bool true) ∧ Below w.heap.size w w' := by
  obtain ⟨i0, hi, hi0, hi1, hi2⟩ := info_parts info9
  have q23 : ∀ (w : World) (a : Option Addr) (n c n' c' : Nat), (binOp .neq 23 (.slice a n c) (.slice none n' c')).run Try.prog w = .ok (.bool (!a.isNone)) w := fun w a n c n' c' => run_neq_slice_nil_any w _ _ a n c n' c' Try.underlying23
  go_enter Try.func6, Try.ntmps6
  go_upto_if 28 with (go_at_call 17; refine (bytes17 so lo n c m d ss ls k qs ql w hs hl).mono ?_; rintro e w ⟨⟨b, rfl, hb⟩, rfl⟩)
  cases b with
  | false =>
    clear hb
    go_wp2_with fail
    go_ret
    exact ⟨rfl, Below.refl _ _⟩
  | true =>
    obtain ⟨hn, hm, hz, hy, hqq⟩ := hb rfl
    have hqs : qs.size ≤ 1048576 := hqq qs (by simp)
    have hql : ql.size ≤ 1048576 := hqq ql (by simp)
    clear hb hqq
    have Hz : Hid (∀ s ∈ ss, s.size ≤ 1048576) := hz
    have Hy : Hid (∀ s ∈ ls, s.size ≤ 1048576) := hy
    clear hz hy
    go_upto_if 30 with fail
    go_cut [0, 11] (fun s0 s11 wx => ∃ so', s0 = .slice so' n n ∧ Own wx so' n ss ∧ Below w.heap.size w wx)
    case first =>
      cases so with
      | none =>
        obtain ⟨rfl, rfl⟩ : n = 0 ∧ c = 0 := by
          rcases hs.2.2 with ⟨h0, h1⟩ | ⟨_, _, e, _⟩
          · exact ⟨h0, h1 rfl⟩
          · cases e
        go_wp2_with fail
        go_meet
        exact ⟨none, rfl, own_nil hs.1, Below.refl _ _⟩
      | some a =>
        go_wp2_with (first
          | (at_make; refine wpList_make_full _ rfl _ _ 23 rfl w.heap.size 9 i0 (.string ByteArray.empty) 1 Try.underlying23 hi hi0 hi1 .i64 .i64 _ _ n rfl rfl (by omega) (by omega) (by rw [hi2]; omega) (by unfold maxLen; omega) (Nat.le_refl _) ?_; intro w1 made1 hg1; obtain ⟨cur, hcur, hcl⟩ := made_row made1; clear made1)
          | (refine wpList_copy_splice rfl (.tmp 34) (.tmp 35) 23 23 rfl 9 Try.underlying23 size9 (some ⟨w.heap.size, 0, none⟩) (some a) n n n c rfl rfl w.heap.size 0 cur 9 hcur (ss.map Value.string) (by simp [hs.1]) (fun h => ⟨rfl, strs_src (hs.below ((Below.refl _ _).grown hg1 (Nat.le_refl _) (fun k e => by cases e))) h⟩) (by simp [hs.1, hcl]) (one_strings ss) w.heap.size w ((Below.refl _ _).grown hg1 (Nat.le_refl _) (fun k e => by cases e)) (Nat.le_refl _) ?_; intro w2 hg2 hb2))
        go_meet
        exact ⟨_, rfl, own_of_row hs.1 hcl hg2.out, hb2⟩
    case rest =>
      obtain ⟨so', rfl, own1, hB1⟩ := hcut
      have hl1 := hl.below hB1
      clear hl hs
      go_upto_if 39 with fail
      go_cut [1, 12] (fun s1 s12 wx => ∃ lo', s1 = .slice lo' m m ∧ Own wx so' n ss ∧ Own wx lo' m ls ∧ Below w.heap.size w wx)
      case first =>
        cases lo with
        | none =>
          obtain ⟨rfl, rfl⟩ : m = 0 ∧ d = 0 := by
            rcases hl1.2.2 with ⟨h0, h1⟩ | ⟨_, _, e, _⟩
            · exact ⟨h0, h1 rfl⟩
            · cases e
          go_wp2_with fail
          go_meet
          exact ⟨none, rfl, own1, own_nil hl1.1, hB1⟩
        | some a =>
          go_wp2_with (first
            | (at_make; refine wpList_make_full _ rfl _ _ 23 rfl wc.heap.size 9 i0 (.string ByteArray.empty) 1 Try.underlying23 hi hi0 hi1 .i64 .i64 _ _ m rfl rfl (by omega) (by omega) (by rw [hi2]; omega) (by unfold maxLen; omega) (Nat.le_refl _) ?_; intro w1 made1 hg1; obtain ⟨cur, hcur, hcl⟩ := made_row made1; clear made1)
            | (refine wpList_copy_splice rfl (.tmp 43) (.tmp 44) 23 23 rfl 9 Try.underlying23 size9 (some ⟨wc.heap.size, 0, none⟩) (some a) m m m d rfl rfl wc.heap.size 0 cur 9 hcur (ls.map Value.string) (by simp [hl1.1]) (fun h => ⟨rfl, strs_src (hl1.below ((Below.refl _ _).grown hg1 (Nat.le_refl _) (fun k e => by cases e))) h⟩) (by simp [hl1.1, hcl]) (one_strings ls) wc.heap.size wc ((Below.refl _ _).grown hg1 (Nat.le_refl _) (fun k e => by cases e)) (Nat.le_refl _) ?_; intro w2 hg2 hb2))
          go_meet
          exact ⟨_, rfl, own1.below hb2, own_of_row hl1.1 hcl hg2.out, hB1.trans (hb2.mono hB1.size)⟩
      case rest =>
        clear own1 hB1 hl1
        obtain ⟨lo', rfl, ownS, ownL, hB⟩ := hcut
        clear hi hi0 hi1 hi2 q23
        go_wp2_with fail
        refine (roomAfter10 so' lo' n n m m ss ls _ ownS.strs ownL.strs hn hm Hz.out Hy.out).mono ?_
        rintro e w1 ⟨⟨r, rfl, hr0, hr1⟩, rfl⟩
        by_cases t1 : r < 0
        · go_wp2_with fail
          go_ret
          exact ⟨rfl, hB⟩
        by_cases t2 : r < (qs.size : Int)
        · go_wp2_with fail
          go_ret
          exact ⟨rfl, hB⟩
        by_cases t3 : r - (qs.size : Int) < (ql.size : Int)
        · go_wp2_with fail
          go_ret
          exact ⟨rfl, hB⟩
        go_wp2_with fail
        refine (min11 n m _).mono ?_
        obtain ⟨N, hN⟩ : ∃ N, min n m = N := ⟨_, rfl⟩
        have hNn : N ≤ n := by omega
        have hNm : N ≤ m := by omega
        rw [hN]
        clear hN
        rintro e w2 ⟨rfl, rfl⟩
        by_cases t4 : k < 0
        · go_wp2_with fail
          go_ret
          exact ⟨rfl, hB⟩
        by_cases t5 : (N : Int) < k
        · go_wp2_with fail
          go_ret
          exact ⟨rfl, hB⟩
        obtain ⟨C, rfl⟩ := Int.eq_ofNat_of_zero_le (a := k) (by omega)
        have hC : C ≤ N := by omega
        clear t1 t2 t3 t4
        go_wp2_with fail
        refine (increasing12 so' lo' n n m m N ss ls _ ownS.strs ownL.strs hNn hNm (by omega) Hz.out Hy.out).mono ?_
        rintro e w3 ⟨⟨b, rfl, hsort⟩, q3, hw3⟩
        have hb3 := below_drewN' w2 q3
        rw [← hw3] at hb3
        replace ownS := ownS.below hb3
        replace ownL := ownL.below hb3
        replace hB := hB.trans (hb3.mono hB.size)
        clear hw3 hb3
        cases b with
        | false =>
          clear hsort
          go_wp2_with fail
          go_ret
          exact ⟨rfl, hB⟩
        | true =>
        replace hsort := hsort rfl
        obtain ⟨ns, hns⟩ : ∃ ns, (ss.zip ls).take N = ns := ⟨_, rfl⟩
        have hnl : ns.length = N := by rw [← hns]; simp [ownS.strs.1, ownL.strs.1]; omega
        rw [hns] at hsort
        have HSort : Hid (Sorted ns) := hsort
        have Hns : Hid ((ss.zip ls).take N = ns) := hns
        have Hnl : Hid (ns.length = N) := hnl
        clear hsort hns hnl
        have sS := slice_to so' n n N (ownS.head) (by omega)
        have sL := slice_to lo' m m N (ownL.head) (by omega)
        have fS := slice_to so' n n C (ownS.head) (by omega)
        have fL := slice_to lo' m m C (ownL.head) (by omega)
        have bS := slice_from so' n n C N (ownS.head) hC (by omega)
        have bL := slice_from lo' m m C N (ownL.head) hC (by omega)
        go_wp2_with fail
        go_region_held3 (fun _ => True) (exact trivial)
          (first
            | (go_at_call 14; refine (newList14 so' lo' N n m (ss.take N) (ls.take N) _ (Own.take (ownS.below (Below.refl _ _).drew) N hNn) (Own.take (ownL.below (Below.refl _ _).drew) N hNm) (by omega)).mono ?_; rintro e w4 ⟨⟨L1, rfl, hA1⟩, hb4⟩))
        rw [zip_take, Hns.out] at hA1
        have hb4' : Below w3.heap.size w3 w4 := (Below.refl _ _).drew.trans hb4
        replace ownS := ownS.below hb4'
        replace ownL := ownL.below hb4'
        replace hB := hB.trans (hb4'.mono hB.size)
        clear hb4 hb4' sS sL
        go_wp2_with fail
        go_region_held3 (fun _ => True) (exact trivial)
          (first
            | (go_at_call 14; refine (newList14 so' lo' C n m (ss.take C) (ls.take C) _ (Own.take (ownS.below (Below.refl _ _).drew) C (by omega)) (Own.take (ownL.below (Below.refl _ _).drew) C (by omega)) (by omega)).mono ?_; rintro e w5 ⟨⟨L2, rfl, hA2⟩, hb5⟩))
        have e2 : (ss.zip ls).take C = ns.take C := by rw [← Hns.out, List.take_take, Nat.min_eq_left hC]
        rw [zip_take, e2] at hA2
        have hb5' : Below w4.heap.size w4 w5 := (Below.refl _ _).drew.trans hb5
        replace ownS := ownS.below hb5'
        replace ownL := ownL.below hb5'
        replace hA1 := hA1.below hb5'
        replace hB := hB.trans (hb5'.mono hB.size)
        clear hb5 hb5' fS fL e2
        go_wp2_with fail
        go_region_held3 (fun _ => True) (exact trivial)
          (first
            | (go_at_call 14; refine (newList14 (cutAt so' n C) (cutAt lo' m C) (N - C) (n - C) (m - C) ((ss.take N).drop C) ((ls.take N).drop C) _ (Own.drop (ownS.below (Below.refl _ _).drew) C N hC hNn) (Own.drop (ownL.below (Below.refl _ _).drew) C N hC hNm) (by omega)).mono ?_; rintro e w6 ⟨⟨L3, rfl, hA3⟩, hb6⟩))
        rw [zip_drop, Hns.out] at hA3
        have hb6' : Below w5.heap.size w5 w6 := (Below.refl _ _).drew.trans hb6
        replace ownS := ownS.below hb6'
        replace ownL := ownL.below hb6'
        replace hA1 := hA1.below hb6'
        replace hA2 := hA2.below hb6'
        replace hB := hB.trans (hb6'.mono hB.size)
        clear hb6 hb6' bS bL
        go_wp2_with fail
        go_loopw [18] (fun i wr => ∃ j : Nat, j ≤ N ∧ i = .int .i64 j ∧ Below w6.heap.size w6 wr) (fun i _ => N - (intOf i).toNat)
        case atStart => exact ⟨0, Nat.zero_le _, rfl, Below.refl _ _⟩
        case round =>
          obtain ⟨j, hj, rfl, hbr⟩ := hrel
          by_cases hlt : j < N
          · obtain ⟨b1, o1, e1, hb1, hc1⟩ := ownS.strs.at (by omega)
            obtain ⟨b2, o2, e2, hb2, hc2⟩ := ownL.strs.at (by omega)
            have hjs : j < ss.length := by rw [ownS.strs.1]; omega
            have hjl : j < ls.length := by rw [ownL.strs.1]; omega
            have hjn : j < ns.length := by rw [Hnl.out]; exact hlt
            have c1 : wr.cell? ⟨b1, o1 + j, none⟩ = some (.string ss[j]) := (hbr.cell (p := ⟨b1, o1 + j, none⟩) hb1).trans (hc1 j hjs)
            have c2 : wr.cell? ⟨b2, o2 + j, none⟩ = some (.string ls[j]) := (hbr.cell (p := ⟨b2, o2 + j, none⟩) hb2).trans (hc2 j hjl)
            obtain ⟨s, hs1⟩ : ∃ s, ss[j] = s := ⟨_, rfl⟩
            obtain ⟨l, hl1⟩ : ∃ l, ls[j] = l := ⟨_, rfl⟩
            have hmem : (s, l) ∈ ns := by
              have e : ns[j] = (s, l) := by
                have := Hns.out
                subst this
                simp [hs1, hl1]
              rw [← e]
              exact List.getElem_mem hjn
            rw [hs1] at c1
            rw [hl1] at c2
            have Hmem : Hid ((s, l) ∈ ns) := hmem
            have z1 : b1 < wr.heap.size := Nat.lt_of_lt_of_le hb1 hbr.size
            have z2 : b2 < wr.heap.size := Nat.lt_of_lt_of_le hb2 hbr.size
            have i1 : (j : Int) < (N : Int) := by omega
            have i2 : (j : Int) < (n : Int) := by omega
            have i3 : (j : Int) < (m : Int) := by omega
            have hA := hA1.below hbr
            have HbS : Hid (Below w6.heap.size w6 wr) := hbr
            clear hc1 hc2 hmem hs1 hl1 ownS ownL hA1 hA2 hA3 hbr hb1 hb2
            subst e1 e2
            go_wp2_with fail
            go_region_held3 (fun w' => w'.cell? ⟨b1, o1 + j, none⟩ = some (.string s) ∧ w'.cell? ⟨b2, o2 + j, none⟩ = some (.string l)) (go_keep)
              (first
                | (go_at_call 16; refine (lookup16 L1 ns (by rw [Hnl.out]; omega) s l _ (hA.below (Below.refl _ _).drew) HSort.out).mono ?_; rintro e w7 ⟨⟨hq, rfl⟩ | ⟨hq, dd, rfl, hd0, hd1⟩, hb7⟩; (exact absurd Hmem.out hq); have k1 := (hb7.cell (p := ⟨b1, o1 + j, none⟩) z1).trans c1; have k2 := (hb7.cell (p := ⟨b2, o2 + j, none⟩) z2).trans c2)
                | (go_at_call 15; refine (declIs_yes dd s l _ hd0 hd1).mono ?_; rintro e w7 ⟨rfl, rfl⟩))
            go_wp2_with fail
            exact ⟨⟨j + 1, by omega, by go_num, HbS.out.drew.trans (hb7.mono HbS.out.size)⟩, by simp [intOf]; omega⟩
          · replace hA1 := hA1.below hbr
            replace hA2 := hA2.below hbr
            replace hA3 := hA3.below hbr
            replace hB := hB.trans (hbr.mono hB.size)
            clear ownS ownL hbr
            have nj : ¬ (j : Int) < (N : Int) := by omega
            go_wp2_with fail
            refine (lookup16_nil qs ql wr).mono ?_
            rintro e w7 ⟨rfl, hb7⟩
            replace hA1 := hA1.below hb7
            replace hA2 := hA2.below hb7
            replace hA3 := hA3.below hb7
            replace hB := hB.trans (hb7.mono hB.size)
            clear hb7
            go_wp2_with fail
            refine (lookup16 L1 ns (by rw [Hnl.out]; omega) qs ql w7 hA1 HSort.out).mono ?_
            rintro e w8 ⟨h1, hb8⟩
            replace hA2 := hA2.below hb8
            replace hA3 := hA3.below hb8
            replace hB := hB.trans (hb8.mono hB.size)
            rcases h1 with ⟨hq1, rfl⟩ | ⟨hq1, d1, rfl, hd10, hd11⟩
            · have hq2 : (qs, ql) ∉ ns.take C := fun h => hq1 ((mem_split C _).2 (.inl h))
              have hq3 : (qs, ql) ∉ ns.drop C := fun h => hq1 ((mem_split C _).2 (.inr h))
              have H2 : Hid ((qs, ql) ∉ ns.take C) := hq2
              have H3 : Hid ((qs, ql) ∉ ns.drop C) := hq3
              clear hq1 hq2 hq3 hb8
              go_wp2_with fail
              refine (lookup16 L2 (ns.take C) (by simp [Hnl.out]; omega) qs ql w8 hA2 (Sorted.take HSort.out C)).mono ?_
              rintro e w9 ⟨⟨hq2, rfl⟩ | ⟨hq2, _⟩, hb9⟩
              case inr => exact absurd hq2 H2.out
              replace hA3 := hA3.below hb9
              replace hB := hB.trans (hb9.mono hB.size)
              clear hq2 hb9
              go_wp2_with fail
              refine (lookup16 L3 (ns.drop C) (by simp [Hnl.out]; omega) qs ql w9 hA3 (Sorted.drop HSort.out C)).mono ?_
              rintro e w10 ⟨⟨hq3, rfl⟩ | ⟨hq3, _⟩, hb10⟩
              case inr => exact absurd hq3 H3.out
              replace hB := hB.trans (hb10.mono hB.size)
              clear hq3 hb10
              go_wp2_with fail
              go_ret
              exact ⟨rfl, hB⟩
            · have hd1z : d1 < w8.heap.size := World.block_lt_of_cell? w8 ⟨d1, 0, none⟩ hd10
              rcases (mem_split C _).1 hq1 with hin | hin
              · have H2 : Hid ((qs, ql) ∈ ns.take C) := hin
                have H3 : Hid ((qs, ql) ∉ ns.drop C) := fun h => Sorted.not_both HSort.out C _ hin h
                clear hq1 hin hb8
                go_wp2_with fail
                refine (lookup16 L2 (ns.take C) (by simp [Hnl.out]; omega) qs ql w8 hA2 (Sorted.take HSort.out C)).mono ?_
                rintro e w9 ⟨⟨hq2, rfl⟩ | ⟨hq2, d2, rfl, hd20, hd21⟩, hb9⟩
                case inl => exact absurd H2.out hq2
                replace hA3 := hA3.below hb9
                replace hB := hB.trans (hb9.mono hB.size)
                replace hd10 := (hb9.cell (p := ⟨d1, 0, none⟩) hd1z).trans hd10
                replace hd11 := (hb9.cell (p := ⟨d1, 1, none⟩) hd1z).trans hd11
                have hd1z9 := World.block_lt_of_cell? w9 ⟨d1, 0, none⟩ hd10
                have hd2z := World.block_lt_of_cell? w9 ⟨d2, 0, none⟩ hd20
                clear hq2 hb9 hd1z
                go_wp2_with fail
                refine (lookup16 L3 (ns.drop C) (by simp [Hnl.out]; omega) qs ql w9 hA3 (Sorted.drop HSort.out C)).mono ?_
                rintro e w10 ⟨⟨hq3, rfl⟩ | ⟨hq3, _⟩, hb10⟩
                case inr => exact absurd hq3 H3.out
                replace hB := hB.trans (hb10.mono hB.size)
                replace hd10 := (hb10.cell (p := ⟨d1, 0, none⟩) hd1z9).trans hd10
                replace hd11 := (hb10.cell (p := ⟨d1, 1, none⟩) hd1z9).trans hd11
                replace hd20 := (hb10.cell (p := ⟨d2, 0, none⟩) hd2z).trans hd20
                replace hd21 := (hb10.cell (p := ⟨d2, 1, none⟩) hd2z).trans hd21
                clear hq3 hb10 hd1z9 hd2z
                go_wp2_with fail
                refine (declIs_yes d1 qs ql w10 hd10 hd11).mono ?_
                rintro e w10 ⟨rfl, rfl⟩
                go_wp2_with fail
                refine (declIs_yes d2 qs ql w10 hd20 hd21).mono ?_
                rintro e w10 ⟨rfl, rfl⟩
                go_wp2_with fail
                go_ret
                exact ⟨rfl, hB⟩
              · have H2 : Hid ((qs, ql) ∉ ns.take C) := fun h => Sorted.not_both HSort.out C _ h hin
                have H3 : Hid ((qs, ql) ∈ ns.drop C) := hin
                clear hq1 hin hb8
                go_wp2_with fail
                refine (lookup16 L2 (ns.take C) (by simp [Hnl.out]; omega) qs ql w8 hA2 (Sorted.take HSort.out C)).mono ?_
                rintro e w9 ⟨⟨hq2, rfl⟩ | ⟨hq2, _⟩, hb9⟩
                case inr => exact absurd hq2 H2.out
                replace hA3 := hA3.below hb9
                replace hB := hB.trans (hb9.mono hB.size)
                replace hd10 := (hb9.cell (p := ⟨d1, 0, none⟩) hd1z).trans hd10
                replace hd11 := (hb9.cell (p := ⟨d1, 1, none⟩) hd1z).trans hd11
                have hd1z9 := World.block_lt_of_cell? w9 ⟨d1, 0, none⟩ hd10
                clear hq2 hb9 hd1z
                go_wp2_with fail
                refine (lookup16 L3 (ns.drop C) (by simp [Hnl.out]; omega) qs ql w9 hA3 (Sorted.drop HSort.out C)).mono ?_
                rintro e w10 ⟨⟨hq3, rfl⟩ | ⟨hq3, d3, rfl, hd30, hd31⟩, hb10⟩
                case inl => exact absurd H3.out hq3
                replace hB := hB.trans (hb10.mono hB.size)
                replace hd10 := (hb10.cell (p := ⟨d1, 0, none⟩) hd1z9).trans hd10
                replace hd11 := (hb10.cell (p := ⟨d1, 1, none⟩) hd1z9).trans hd11
                clear hq3 hb10 hd1z9
                go_wp2_with fail
                refine (declIs_yes d1 qs ql w10 hd10 hd11).mono ?_
                rintro e w10 ⟨rfl, rfl⟩
                go_wp2_with fail
                refine (declIs_yes d3 qs ql w10 hd30 hd31).mono ?_
                rintro e w10 ⟨rfl, rfl⟩
                go_wp2_with fail
                go_ret
                exact ⟨rfl, hB⟩

end Go.Proofs.Qxb6608526a.Attr
