import Derived.Test.Qxb6608526aIns0
namespace Go.Proofs.Qxb6608526a.Attr
open Go.RowKit Names
set_option linter.unusedVariables false

theorem toList_inj {a b : ByteArray} (h : a.toList = b.toList) : a = b := by
  rw [ByteArray.toList_eq, ByteArray.toList_eq] at h
  exact ByteArray.ext (Array.toList_inj.1 h)

set_option maxHeartbeats 8000000 in
set_option maxRecDepth 100000 in
theorem insert_law (so lo : Option Addr) (n c m d : Nat) (ss ls : List ByteArray) (k : Int) (xs xl qs ql : ByteArray) (w : World) (hs : Strs w so n c ss) (hl : Strs w lo m d ls) :
    Calls Try.prog 5 #[.slice so n c, .slice lo m d, .int .i64 k, .string xs, .string xl, .string qs, .string ql] w fun e w' => e = .returned (.bool true) ∧ Below w.heap.size w w' := by
  obtain ⟨i0, hi, hi0, hi1, hi2⟩ := info_parts info9
  have q23 : ∀ (w : World) (a : Option Addr) (n c n' c' : Nat), (binOp .neq 23 (.slice a n c) (.slice none n' c')).run Try.prog w = .ok (.bool (!a.isNone)) w := fun w a n c n' c' => run_neq_slice_nil_any w _ _ a n c n' c' Try.underlying23
  go_enter Try.func5, Try.ntmps5
  go_upto_if 35 with (go_at_call 9; refine (bytes9 so lo n c m d ss ls k xs xl qs ql w hs hl).mono ?_; rintro e w ⟨⟨b, rfl, hb⟩, rfl⟩)
  cases b with
  | false =>
    clear hb
    go_wp2_with fail
    go_ret
    exact ⟨rfl, Below.refl _ _⟩
  | true =>
    obtain ⟨hn, hm, hz, hy, hqq⟩ := hb rfl
    have hxs : xs.size ≤ 1048576 := hqq xs (by simp)
    have hxl : xl.size ≤ 1048576 := hqq xl (by simp)
    have hqs : qs.size ≤ 1048576 := hqq qs (by simp)
    have hql : ql.size ≤ 1048576 := hqq ql (by simp)
    clear hb hqq
    have Hz : Hid (∀ s ∈ ss, s.size ≤ 1048576) := hz
    have Hy : Hid (∀ s ∈ ls, s.size ≤ 1048576) := hy
    clear hz hy
    go_upto_if 37 with fail
    go_cut [0, 15] (fun s0 s15 wx => ∃ so', s0 = .slice so' n n ∧ Own wx so' n ss ∧ Below w.heap.size w wx)
    case first => as_aux_lemma =>
      cases so with
      | none =>
        obtain ⟨rfl, rfl⟩ : n = 0 ∧ c = 0 := by
          rcases hs.2.2 with ⟨h0, h1⟩ | ⟨_, _, e, _⟩
          · exact ⟨h0, h1 rfl⟩
          · cases e
        go_wp2_with fail
        go_meet
        exact ⟨none, rfl, own_nil hs.1, Below.refl _ _⟩
      | some a =>
        go_wp2_with (first
          | (at_make; refine wpList_make_full _ rfl _ _ 23 rfl w.heap.size 9 i0 (.string ByteArray.empty) 1 Try.underlying23 hi hi0 hi1 .i64 .i64 _ _ n rfl rfl (by omega) (by omega) (by rw [hi2]; omega) (by unfold maxLen; omega) (Nat.le_refl _) ?_; intro w1 made1 hg1; obtain ⟨cur, hcur, hcl⟩ := made_row made1; clear made1)
          | (refine wpList_copy_splice rfl (.tmp 41) (.tmp 42) 23 23 rfl 9 Try.underlying23 size9 (some ⟨w.heap.size, 0, none⟩) (some a) n n n c rfl rfl w.heap.size 0 cur 9 hcur (ss.map Value.string) (by simp [hs.1]) (fun h => ⟨rfl, strs_src (hs.below ((Below.refl _ _).grown hg1 (Nat.le_refl _) (fun k e => by cases e))) h⟩) (by simp [hs.1, hcl]) (one_strings ss) w.heap.size w ((Below.refl _ _).grown hg1 (Nat.le_refl _) (fun k e => by cases e)) (Nat.le_refl _) ?_; intro w2 hg2 hb2))
        go_meet
        exact ⟨_, rfl, own_of_row hs.1 hcl hg2.out, hb2⟩
    case rest => as_aux_lemma =>
      obtain ⟨so', rfl, own1, hB1⟩ := hcut
      have hl1 := hl.below hB1
      clear hl hs
      go_upto_if 46 with fail
      go_cut [1, 16] (fun s1 s16 wx => ∃ lo', s1 = .slice lo' m m ∧ Own wx so' n ss ∧ Own wx lo' m ls ∧ Below w.heap.size w wx)
      case first => as_aux_lemma =>
        cases lo with
        | none =>
          obtain ⟨rfl, rfl⟩ : m = 0 ∧ d = 0 := by
            rcases hl1.2.2 with ⟨h0, h1⟩ | ⟨_, _, e, _⟩
            · exact ⟨h0, h1 rfl⟩
            · cases e
          go_wp2_with fail
          go_meet
          exact ⟨none, rfl, own1, own_nil hl1.1, hB1⟩
        | some a =>
          go_wp2_with (first
            | (at_make; refine wpList_make_full _ rfl _ _ 23 rfl wc.heap.size 9 i0 (.string ByteArray.empty) 1 Try.underlying23 hi hi0 hi1 .i64 .i64 _ _ m rfl rfl (by omega) (by omega) (by rw [hi2]; omega) (by unfold maxLen; omega) (Nat.le_refl _) ?_; intro w1 made1 hg1; obtain ⟨cur, hcur, hcl⟩ := made_row made1; clear made1)
            | (refine wpList_copy_splice rfl (.tmp 50) (.tmp 51) 23 23 rfl 9 Try.underlying23 size9 (some ⟨wc.heap.size, 0, none⟩) (some a) m m m d rfl rfl wc.heap.size 0 cur 9 hcur (ls.map Value.string) (by simp [hl1.1]) (fun h => ⟨rfl, strs_src (hl1.below ((Below.refl _ _).grown hg1 (Nat.le_refl _) (fun k e => by cases e))) h⟩) (by simp [hl1.1, hcl]) (one_strings ls) wc.heap.size wc ((Below.refl _ _).grown hg1 (Nat.le_refl _) (fun k e => by cases e)) (Nat.le_refl _) ?_; intro w2 hg2 hb2))
          go_meet
          exact ⟨_, rfl, own1.below hb2, own_of_row hl1.1 hcl hg2.out, hB1.trans (hb2.mono hB1.size)⟩
      case rest => as_aux_lemma =>
        clear own1 hB1 hl1
        obtain ⟨lo', rfl, ownS, ownL, hB⟩ := hcut
        clear q23
        go_wp2_with fail
        refine (roomAfter10 so' lo' n n m m ss ls _ ownS.strs ownL.strs hn hm Hz.out Hy.out).mono ?_
        rintro e w1 ⟨⟨r, rfl, hr0, hr1⟩, rfl⟩
        go_wp2_with fail
        all_goals try (go_ret; exact ⟨rfl, hB⟩)
        refine (min11 n m _).mono ?_
        obtain ⟨N, hN⟩ : ∃ N, min n m = N := ⟨_, rfl⟩
        have hNn : N ≤ n := by omega
        have hNm : N ≤ m := by omega
        rw [hN]
        clear hN
        rintro e w2 ⟨rfl, rfl⟩
        by_cases t6 : k < 0
        · go_wp2_with fail
          go_ret
          exact ⟨rfl, hB⟩
        by_cases t7 : (N : Int) < k
        · go_wp2_with fail
          go_ret
          exact ⟨rfl, hB⟩
        obtain ⟨K, rfl⟩ := Int.eq_ofNat_of_zero_le (a := k) (by omega)
        have hK : K ≤ N := by omega
        clear t6
        go_wp2_with fail
        refine (increasing12 so' lo' n n m m N ss ls _ ownS.strs ownL.strs hNn hNm (by omega) Hz.out Hy.out).mono ?_
        rintro e w3 ⟨⟨b, rfl, hsort⟩, q3, hw3⟩
        have hb3 := below_drewN' w2 q3
        rw [← hw3] at hb3
        replace ownS := ownS.below hb3
        replace ownL := ownL.below hb3
        replace hB := hB.trans (hb3.mono hB.size)
        clear hw3 hb3
        cases b with
        | false =>
          clear hsort
          go_wp2_with fail
          go_ret
          exact ⟨rfl, hB⟩
        | true =>
        replace hsort := hsort rfl
        obtain ⟨ns, hns⟩ : ∃ ns, (ss.zip ls).take N = ns := ⟨_, rfl⟩
        have hnl : ns.length = N := by rw [← hns]; simp [ownS.strs.1, ownL.strs.1]; omega
        rw [hns] at hsort
        have HSort : Hid (Sorted ns) := hsort
        have Hns : Hid ((ss.zip ls).take N = ns) := hns
        have Hnl : Hid (ns.length = N) := hnl
        have Hls : Hid (N ≤ ss.length ∧ N ≤ ls.length) := ⟨by rw [ownS.strs.1]; exact hNn, by rw [ownL.strs.1]; exact hNm⟩
        have Hat : Hid (∀ j (h1 : j < ss.length) (h2 : j < ls.length) (h3 : j < ns.length), ns[j] = (ss[j], ls[j])) := by
          intro j h1 h2 h3
          subst hns
          simp
        clear hsort hns hnl
        -- the place: does the name fit behind the one before it?
        go_upto_region 30 with fail
        go_cut [121] (fun s wx => (∃ b : Bool, s = .bool b ∧ (b = false → ∀ j (h : j + 1 = K) (hj : j < ns.length), cmpN ns[j] (xs, xl) < 0)) ∧ ∃ q, wx = w3.drewN q)
        case first => as_aux_lemma =>
          rcases Nat.eq_zero_or_pos K with h0 | h0
          · have g0 : decide ((0 : Int) < (K : Int)) = false := by simp; omega
            go_quiet (fail)
            go_wp2_with fail
            go_meet
            exact ⟨⟨false, rfl, fun _ j h _ => by omega⟩, _, rfl⟩
          · obtain ⟨j, rfl⟩ : ∃ j, K = j + 1 := ⟨K - 1, by omega⟩
            obtain ⟨b1, o1, e1, _, hc1⟩ := ownS.strs.at (by omega)
            obtain ⟨b2, o2, e2, _, hc2⟩ := ownL.strs.at (by omega)
            have s0 : j < ss.length := by have := Hls.out.1; omega
            have l0 : j < ls.length := by have := Hls.out.2; omega
            have n0 : j < ns.length := by rw [Hnl.out]; omega
            have c1 := hc1 j s0
            have c2 := hc2 j l0
            have y1 := Hz.out _ (List.getElem_mem s0)
            have y2 := Hy.out _ (List.getElem_mem l0)
            have hv0 := Hat.out j s0 l0 n0
            obtain ⟨x1, hx1⟩ : ∃ x, ss[j] = x := ⟨_, rfl⟩
            obtain ⟨x2, hx2⟩ : ∃ x, ls[j] = x := ⟨_, rfl⟩
            rw [hx1] at c1 y1 hv0
            rw [hx2] at c2 y2 hv0
            have hv : Hid (cmpN ns[j] (xs, xl) = cmpN (x1, x2) (xs, xl)) := by rw [hv0]; exact rfl
            have i1 : (0 : Int) < (j : Int) + 1 := by omega
            have i2 : (j : Int) < (n : Int) := by omega
            have i3 : (j : Int) < (m : Int) := by omega
            have hwj : IntKind.i64.wrap (j : Int) = (j : Int) := Go.IntWalk.i64_in _ (by omega)
            clear hc1 hc2 hx1 hx2 hv0 h0 ownS ownL
            subst e1 e2
            go_wp2_with fail
            go_quiet ((go_at_call 13; exact Calls.quiet_of (compareNames13 x1 x2 xs xl _ y1 y2 hxs hxl)))
            go_wp2_with fail
            go_meet
            refine ⟨⟨_, rfl, fun h j' hj' hjn => ?_⟩, _, rfl⟩
            obtain rfl : j' = j := by omega
            rw [hv.out]
            simpa using h
        case rest => as_aux_lemma =>
        obtain ⟨⟨b, rfl, hleft⟩, q4, hw4⟩ := hcut
        have hb4 := below_drewN' w3 q4
        rw [← hw4] at hb4
        replace ownS := ownS.below hb4
        replace ownL := ownL.below hb4
        replace hB := hB.trans (hb4.mono hB.size)
        clear hw4 hb4
        generalize wc = w4 at *
        cases b with
        | true =>
          clear hleft
          go_wp2_with fail
          go_ret
          exact ⟨rfl, hB⟩
        | false =>
        have Hleft : Hid (∀ j (h : j + 1 = K) (hj : j < ns.length), cmpN ns[j] (xs, xl) < 0) := hleft rfl
        clear hleft
        go_upto_region 32 with fail
        go_cut [138] (fun s wx => (∃ b : Bool, s = .bool b ∧ (b = false → ∀ (h : K < ns.length), cmpN (xs, xl) ns[K] < 0)) ∧ ∃ q, wx = w4.drewN q)
        case first => as_aux_lemma =>
          by_cases hKN : K < N
          · obtain ⟨b1, o1, e1, _, hc1⟩ := ownS.strs.at (by omega)
            obtain ⟨b2, o2, e2, _, hc2⟩ := ownL.strs.at (by omega)
            have s0 : K < ss.length := by have := Hls.out.1; omega
            have l0 : K < ls.length := by have := Hls.out.2; omega
            have n0 : K < ns.length := by rw [Hnl.out]; omega
            have c1 := hc1 K s0
            have c2 := hc2 K l0
            have y1 := Hz.out _ (List.getElem_mem s0)
            have y2 := Hy.out _ (List.getElem_mem l0)
            have hv0 := Hat.out K s0 l0 n0
            obtain ⟨x1, hx1⟩ : ∃ x, ss[K] = x := ⟨_, rfl⟩
            obtain ⟨x2, hx2⟩ : ∃ x, ls[K] = x := ⟨_, rfl⟩
            rw [hx1] at c1 y1 hv0
            rw [hx2] at c2 y2 hv0
            have hv : Hid (cmpN (xs, xl) ns[K] = cmpN (xs, xl) (x1, x2)) := by rw [hv0]; exact rfl
            have i1 : (K : Int) < (N : Int) := by omega
            have i2 : (K : Int) < (n : Int) := by omega
            have i3 : (K : Int) < (m : Int) := by omega
            clear hc1 hc2 hx1 hx2 hv0 ownS ownL
            subst e1 e2
            go_wp2_with fail
            go_quiet ((go_at_call 13; exact Calls.quiet_of (compareNames13 xs xl x1 x2 _ hxs hxl y1 y2)))
            go_wp2_with fail
            go_meet
            refine ⟨⟨_, rfl, fun h hj => ?_⟩, _, rfl⟩
            rw [hv.out]
            simpa using h
          · have g0 : decide ((K : Int) < (N : Int)) = false := by simp; omega
            go_quiet (fail)
            go_wp2_with fail
            go_meet
            exact ⟨⟨false, rfl, fun _ h => by have := Hnl.out; omega⟩, _, rfl⟩
        case rest => as_aux_lemma =>
        obtain ⟨⟨b, rfl, hright⟩, q5, hw5⟩ := hcut
        have hb5 := below_drewN' w4 q5
        rw [← hw5] at hb5
        replace ownS := ownS.below hb5
        replace ownL := ownL.below hb5
        replace hB := hB.trans (hb5.mono hB.size)
        clear hw5 hb5
        generalize wc = w5 at *
        cases b with
        | true =>
          clear hright
          go_wp2_with fail
          go_ret
          exact ⟨rfl, hB⟩
        | false =>
        have Hfit : Hid (Fits ns K (xs, xl)) := ⟨Hleft.out, hright rfl⟩
        clear hright Hleft
        have hN1 : (N : Int) + 1 ≤ 1048577 := by omega
        go_wp2_with (first
          | (at_make; refine wpList_make_full _ rfl (.tmp 140) (.tmp 140) 23 rfl w5.heap.size 9 i0 (.string ByteArray.empty) 1 Try.underlying23 hi hi0 hi1 .i64 .i64 _ _ (N + 1) rfl rfl (by omega) (by omega) (by rw [hi2]; omega) (by unfold maxLen; omega) (Nat.le_refl _) ?_; intro wA madeA hgA)
          | (at_make; refine wpList_make_full _ rfl (.tmp 143) (.tmp 143) 23 rfl w5.heap.size 9 i0 (.string ByteArray.empty) 1 Try.underlying23 hi hi0 hi1 .i64 .i64 _ _ (N + 1) rfl rfl (by omega) (by omega) (by rw [hi2]; omega) (by unfold maxLen; omega) hgA.size ?_; intro wB madeB hgB))
        have hSz : w5.heap.size < wA.heap.size := (madeA.lt w5.heap.size rfl).2
        have hbB : Below w5.heap.size w5 wB := ((Below.refl _ _).grown hgA (Nat.le_refl _) (fun k e => by cases e)).grown hgB hgA.size (fun k e => by cases e)
        have two0 : Two w5 wB w5.heap.size wA.heap.size (N + 1) _ _ (wide ss N K xs) (wide ls N K xl) 0 0 :=
          ⟨hbB, madeA.kept hgB (.inr (by simp [Value.ownBlock])), madeB, by omega, wide_length Hls.out.1 hK, wide_length Hls.out.2 hK, fun i _ h => by omega, fun i _ h => by omega⟩
        generalize (madeCells (Value.string ByteArray.empty).cells ((N + 1) * 1)).toList = cS0 at *
        clear madeA madeB hgA hgB hi hi0 hi1 hi2 hbB
        generalize hSe : w5.heap.size = S at two0 hSz ⊢
        generalize wA.heap.size = L at *
        have HSe : Hid (w5.heap.size = S) := hSe
        have HwS : Hid (∀ j (h : j < K), (wide ss N K xs)[j]'(by rw [wide_length Hls.out.1 hK]; omega) = ss[j]'(by have := Hls.out.1; omega)) := fun j h => wide_lt Hls.out.1 hK h
        have HwL : Hid (∀ j (h : j < K), (wide ls N K xl)[j]'(by rw [wide_length Hls.out.2 hK]; omega) = ls[j]'(by have := Hls.out.2; omega)) := fun j h => wide_lt Hls.out.2 hK h
        have i9 : (K : Int) ≤ (N : Int) := by omega
        clear hSe
        go_loopw [21] (fun i wr => ∃ (j : Nat) (cS cL : List Value), j ≤ K ∧ i = .int .i64 j ∧ Two w5 wr S L (N + 1) cS cL (wide ss N K xs) (wide ls N K xl) j j) (fun i _ => K - (intOf i).toNat)
        case atStart => exact ⟨0, _, _, Nat.zero_le _, rfl, two0⟩
        case round => as_aux_lemma =>
          clear two0
          obtain ⟨j, cS, cL, hj, rfl, two⟩ := hrel
          by_cases hlt : j < K
          · obtain ⟨b1, o1, e1, hb1, hc1⟩ := ownS.strs.at (by omega)
            obtain ⟨b2, o2, e2, hb2, hc2⟩ := ownL.strs.at (by omega)
            have hjs : j < ss.length := by have := Hls.out.1; omega
            have hjl : j < ls.length := by have := Hls.out.2; omega
            have c1 : wr.cell? ⟨b1, o1 + j, none⟩ = some (.string ss[j]) := (two.below.cell (p := ⟨b1, o1 + j, none⟩) hb1).trans (hc1 j hjs)
            have c2 : wr.cell? ⟨b2, o2 + j, none⟩ = some (.string ls[j]) := (two.below.cell (p := ⟨b2, o2 + j, none⟩) hb2).trans (hc2 j hjl)
            have hp := (two.putS (by omega) ss[j] (fun _ => HwS.out j hlt)).putL (by omega) ls[j] (fun _ => HwL.out j hlt)
            obtain ⟨s, hs1⟩ : ∃ s, ss[j] = s := ⟨_, rfl⟩
            obtain ⟨l, hl1⟩ : ∃ l, ls[j] = l := ⟨_, rfl⟩
            rw [hs1] at c1 hp
            rw [hl1] at c2 hp
            have Hp : Hid (Two w5 ((wr.setCell ⟨S, j, none⟩ (.string s)).setCell ⟨L, j, none⟩ (.string l)) S L (N + 1) (cS.set j (.string s)) (cL.set j (.string l)) (wide ss N K xs) (wide ls N K xl) (j + 1) (j + 1)) := hp
            obtain ⟨u1, g1, f1⟩ := two.cellS (i := j) (by omega)
            obtain ⟨u2, g2, f2⟩ := two.cellL (i := j) (by omega)
            have hSb : w5.heap.size ≤ S := Nat.le_of_eq HSe.out
            have hne := two.ne
            have q2 : (wr.setCell ⟨S, j, none⟩ (.string s)).cell? ⟨b2, o2 + j, none⟩ = some (.string l) := by rw [World.cell?_setCell_other _ _ _ _ (fun e => by have := congrArg Addr.block e; simp at this; omega)]; exact c2
            have q3 : (wr.setCell ⟨S, j, none⟩ (.string s)).cell? ⟨L, j, none⟩ = some u2 := by rw [World.cell?_setCell_other _ _ _ _ (fun e => hne (congrArg Addr.block e))]; exact g2
            have i1 : (j : Int) < (K : Int) := by omega
            have i2 : (j : Int) < (n : Int) := by omega
            have i3 : (j : Int) < (m : Int) := by omega
            have i4 : (j : Int) < (N : Int) + 1 := by omega
            clear hc1 hc2 hs1 hl1 two hp ownS ownL hb1 hb2 hSb
            subst e1 e2
            go_wp2_with fail
            exact ⟨⟨j + 1, _, _, by omega, by go_num, Hp.out⟩, by simp [intOf]; omega⟩
          · obtain rfl : j = K := by omega
            obtain ⟨u1, g1, f1⟩ := two.cellS (i := j) (by omega)
            obtain ⟨u2, g2, f2⟩ := two.cellL (i := j) (by omega)
            have hne := two.ne
            have q3 : (wr.setCell ⟨S, j, none⟩ (.string xs)).cell? ⟨L, j, none⟩ = some u2 := by rw [World.cell?_setCell_other _ _ _ _ (fun e => hne (congrArg Addr.block e))]; exact g2
            have two1 := (two.putS (by omega) xs (fun _ => wide_at Hls.out.1 hK)).putL (by omega) xl (fun _ => wide_at Hls.out.2 hK)
            have Two1 : Hid (Two w5 ((wr.setCell ⟨S, j, none⟩ (.string xs)).setCell ⟨L, j, none⟩ (.string xl)) S L (N + 1) (cS.set j (.string xs)) (cL.set j (.string xl)) (wide ss N j xs) (wide ls N j xl) (j + 1) (j + 1)) := two1
            have i4 : (j : Int) < (N : Int) + 1 := by omega
            clear two two1 HwS HwL hlt hj
            go_wp2_with fail
            go_loopw [22] (fun i wr => ∃ (a : Nat) (cS cL : List Value), j ≤ a ∧ a ≤ N ∧ i = .int .i64 a ∧ Two w5 wr S L (N + 1) cS cL (wide ss N j xs) (wide ls N j xl) (a + 1) (a + 1)) (fun i _ => N - (intOf i).toNat)
            case atStart => exact ⟨j, _, _, Nat.le_refl _, hK, rfl, Two1.out⟩
            case round => as_aux_lemma =>
              clear Two1 q3 g1 g2 f1 f2
              obtain ⟨a, dS, dL, hja, haN, rfl, two⟩ := hrel
              by_cases hlt : a < N
              · obtain ⟨b1, o1, e1, hb1, hc1⟩ := ownS.strs.at (by omega)
                obtain ⟨b2, o2, e2, hb2, hc2⟩ := ownL.strs.at (by omega)
                have hjs : a < ss.length := by have := Hls.out.1; omega
                have hjl : a < ls.length := by have := Hls.out.2; omega
                have c1 : wr.cell? ⟨b1, o1 + a, none⟩ = some (.string ss[a]) := (two.below.cell (p := ⟨b1, o1 + a, none⟩) hb1).trans (hc1 a hjs)
                have c2 : wr.cell? ⟨b2, o2 + a, none⟩ = some (.string ls[a]) := (two.below.cell (p := ⟨b2, o2 + a, none⟩) hb2).trans (hc2 a hjl)
                have hp := (two.putS (by omega) ss[a] (fun _ => wide_gt Hls.out.1 hK hja hlt)).putL (by omega) ls[a] (fun _ => wide_gt Hls.out.2 hK hja hlt)
                obtain ⟨s, hs1⟩ : ∃ s, ss[a] = s := ⟨_, rfl⟩
                obtain ⟨l, hl1⟩ : ∃ l, ls[a] = l := ⟨_, rfl⟩
                rw [hs1] at c1 hp
                rw [hl1] at c2 hp
                have Hp : Hid (Two w5 ((wr.setCell ⟨S, a + 1, none⟩ (.string s)).setCell ⟨L, a + 1, none⟩ (.string l)) S L (N + 1) (dS.set (a + 1) (.string s)) (dL.set (a + 1) (.string l)) (wide ss N j xs) (wide ls N j xl) (a + 1 + 1) (a + 1 + 1)) := hp
                obtain ⟨u1, g1, f1⟩ := two.cellS (i := a + 1) (by omega)
                obtain ⟨u2, g2, f2⟩ := two.cellL (i := a + 1) (by omega)
                have hSb : w5.heap.size ≤ S := Nat.le_of_eq HSe.out
                have hne := two.ne
                have q2 : (wr.setCell ⟨S, a + 1, none⟩ (.string s)).cell? ⟨b2, o2 + a, none⟩ = some (.string l) := by rw [World.cell?_setCell_other _ _ _ _ (fun e => by have := congrArg Addr.block e; simp at this; omega)]; exact c2
                have q3 : (wr.setCell ⟨S, a + 1, none⟩ (.string s)).cell? ⟨L, a + 1, none⟩ = some u2 := by rw [World.cell?_setCell_other _ _ _ _ (fun e => hne (congrArg Addr.block e))]; exact g2
                have i1 : (a : Int) < (N : Int) := by omega
                have i2 : (a : Int) < (n : Int) := by omega
                have i3 : (a : Int) < (m : Int) := by omega
                have i5 : (a : Int) + 1 < (N : Int) + 1 := by omega
                have i6 : ((a : Int) + 1).toNat = a + 1 := by omega
                clear hc1 hc2 hs1 hl1 two hp ownS ownL hb1 hb2 hSb
                subst e1 e2
                go_wp2_with fail
                exact ⟨⟨a + 1, _, _, by omega, by omega, by go_num, Hp.out⟩, by simp [intOf]; omega⟩
              · obtain rfl : a = N := by omega
                obtain ⟨strS, strL⟩ := two.end
                have hBr := two.below
                replace ownS := ownS.below hBr
                replace ownL := ownL.below hBr
                replace hB := hB.trans (hBr.mono hB.size)
                clear two hBr hlt
                have sS := slice_to so' n n a (ownS.head) (by omega)
                have sL := slice_to lo' m m a (ownL.head) (by omega)
                go_wp2_with fail
                go_region_held3 (fun _ => True) (exact trivial)
                  (first
                    | (go_at_call 14; refine (newList14 so' lo' a n m (ss.take a) (ls.take a) _ (Own.take (ownS.below (Below.refl _ _).drew) a hNn) (Own.take (ownL.below (Below.refl _ _).drew) a hNm) (by omega)).mono ?_; rintro e w6 ⟨⟨L1, rfl, hA1⟩, hb6⟩))
                rw [zip_take, Hns.out] at hA1
                have hb6' : Below wr.heap.size wr w6 := (Below.refl _ _).drew.trans hb6
                replace strS := strS.below hb6'
                replace strL := strL.below hb6'
                replace hB := hB.trans (hb6'.mono hB.size)
                clear hb6 hb6' sS sL ownS ownL
                go_wp2_with fail
                refine (newList14 (some ⟨S, 0, none⟩) (some ⟨L, 0, none⟩) (a + 1) (a + 1) (a + 1) _ _ w6 strS strL (by omega)).mono ?_
                rintro e w7 ⟨⟨L2, rfl, hA2⟩, hb7⟩
                rw [wide_zip ss ls a j xs xl Hls.out.1 Hls.out.2 hK, Hns.out] at hA2
                replace hA1 := hA1.below hb7
                replace hB := hB.trans (hb7.mono hB.size)
                clear hb7 strS strL
                have HS2 : Hid (Sorted (insAt ns j (xs, xl))) := Hfit.out.sorted HSort.out (by rw [Hnl.out]; exact hK)
                have HL2 : Hid ((insAt ns j (xs, xl)).length ≤ 2000000) := by
                  have := Hnl.out
                  simp [insAt, Hid]
                  omega
                have HL1 : Hid (ns.length ≤ 2000000) := by
                  have := Hnl.out
                  simp [Hid]
                  omega
                have Hnx : Hid ((xs, xl) ∉ ns) := Hfit.out.not_mem HSort.out (by rw [Hnl.out]; exact hK)
                -- the widened list finds x as x
                go_wp2_with fail
                refine (lookup16 L2 _ HL2.out xs xl w7 hA2 HS2.out).mono ?_
                rintro e w8 ⟨⟨hq, rfl⟩ | ⟨hq, d8, rfl, h80, h81⟩, hb8⟩
                case inl => exact absurd (mem_insAt.2 (.inl rfl)) hq
                replace hA1 := hA1.below hb8
                replace hA2 := hA2.below hb8
                replace hB := hB.trans (hb8.mono hB.size)
                clear hb8 hq
                go_wp2_with fail
                refine (declIs_yes d8 xs xl w8 h80 h81).mono ?_
                rintro e w8 ⟨rfl, rfl⟩
                go_wp2_with fail
                refine (lookup16 L1 ns HL1.out xs xl w8 hA1 HSort.out).mono ?_
                rintro e w9 ⟨⟨hq, rfl⟩ | ⟨hq, _⟩, hb9⟩
                case inr => exact absurd hq Hnx.out
                replace hA1 := hA1.below hb9
                replace hA2 := hA2.below hb9
                replace hB := hB.trans (hb9.mono hB.size)
                clear hb9 hq h80 h81
                go_wp2_with fail
                refine (lookup16 L1 ns HL1.out qs ql w9 hA1 HSort.out).mono ?_
                rintro e w10 ⟨h10, hb10⟩
                replace hA2 := hA2.below hb10
                replace hB := hB.trans (hb10.mono hB.size)
                rcases h10 with ⟨hq, rfl⟩ | ⟨hq, dA, rfl, hA0, hA1'⟩
                · -- q is not in the old list
                  have Hq : Hid ((qs, ql) ∉ ns) := hq
                  clear hq hb10 hA1
                  go_wp2_with fail
                  refine (lookup16 L2 _ HL2.out qs ql w10 hA2 HS2.out).mono ?_
                  rintro e w11 ⟨h11, hb11⟩
                  replace hB := hB.trans (hb11.mono hB.size)
                  clear hb11 hA2
                  rcases h11 with ⟨hq2, rfl⟩ | ⟨hq2, dB, rfl, hB0, hB1⟩
                  · -- nor in the widened one: so it is not x
                    by_cases hs : qs = xs
                    · have hl : ql ≠ xl := fun e => hq2 (mem_insAt.2 (.inl (by rw [hs, e])))
                      have t1 : (qs.toList == xs.toList) = true := by simp [hs]
                      have t2 : (ql.toList == xl.toList) = false := by rw [beq_eq_false_iff_ne]; exact fun e => hl (toList_inj e)
                      clear hs hl hq2
                      go_wp2_with fail
                      go_ret
                      exact ⟨rfl, hB⟩
                    · have t1 : (qs.toList == xs.toList) = false := by rw [beq_eq_false_iff_ne]; exact fun e => hs (toList_inj e)
                      clear hs hq2
                      go_wp2_with fail
                      go_ret
                      exact ⟨rfl, hB⟩
                  · -- it is x
                    have hx : (qs, ql) = (xs, xl) := (mem_insAt.1 hq2).resolve_right Hq.out
                    obtain ⟨rfl, rfl⟩ := Prod.mk.inj hx
                    clear hx hq2
                    go_wp2_with fail
                    refine (declIs_yes dB qs ql w11 hB0 hB1).mono ?_
                    rintro e w11 ⟨rfl, rfl⟩
                    go_wp2_with fail
                    go_ret
                    exact ⟨rfl, hB⟩
                · -- q is in the old list: so it is not x
                  have hne : (qs, ql) ≠ (xs, xl) := fun e => Hnx.out (e ▸ hq)
                  have Hq2 : Hid ((qs, ql) ∈ insAt ns j (xs, xl)) := mem_insAt.2 (.inr hq)
                  have hAz := World.block_lt_of_cell? w10 ⟨dA, 0, none⟩ hA0
                  clear hq hb10 hA1
                  go_wp2_with fail
                  refine (lookup16 L2 _ HL2.out qs ql w10 hA2 HS2.out).mono ?_
                  rintro e w11 ⟨⟨hq2, rfl⟩ | ⟨hq2, dB, rfl, hB0, hB1⟩, hb11⟩
                  case inl => exact absurd Hq2.out hq2
                  replace hB := hB.trans (hb11.mono hB.size)
                  replace hA0 := (hb11.cell (p := ⟨dA, 0, none⟩) hAz).trans hA0
                  replace hA1' := (hb11.cell (p := ⟨dA, 1, none⟩) hAz).trans hA1'
                  clear hb11 hA2 hq2 hAz
                  by_cases hs : qs = xs
                  · have hl : ql ≠ xl := fun e => hne (by rw [hs, e])
                    have t1 : (qs.toList == xs.toList) = true := by simp [hs]
                    have t2 : (ql.toList == xl.toList) = false := by rw [beq_eq_false_iff_ne]; exact fun e => hl (toList_inj e)
                    clear hs hl hne
                    go_wp2_with fail
                    refine (declIs_yes dA qs ql w11 hA0 hA1').mono ?_
                    rintro e w11 ⟨rfl, rfl⟩
                    go_wp2_with fail
                    refine (declIs_yes dB qs ql w11 hB0 hB1).mono ?_
                    rintro e w11 ⟨rfl, rfl⟩
                    go_wp2_with fail
                    go_ret
                    exact ⟨rfl, hB⟩
                  · have t1 : (qs.toList == xs.toList) = false := by rw [beq_eq_false_iff_ne]; exact fun e => hs (toList_inj e)
                    clear hs hne
                    go_wp2_with fail
                    refine (declIs_yes dA qs ql w11 hA0 hA1').mono ?_
                    rintro e w11 ⟨rfl, rfl⟩
                    go_wp2_with fail
                    refine (declIs_yes dB qs ql w11 hB0 hB1).mono ?_
                    rintro e w11 ⟨rfl, rfl⟩
                    go_wp2_with fail
                    go_ret
                    exact ⟨rfl, hB⟩

end Go.Proofs.Qxb6608526a.Attr
