import Derived.Test.Qxb6608526aAttr2
import Derived.Deep.OwnRows
import Derived.Outline
namespace Go.Proofs.Qxb6608526a.Attr
open Go.RowKit Names
set_option linter.unusedVariables false

/-- A slice of strings: its elements 'ss'; where there is one, it lies in a plain row of cells. -/
def Strs (w : World) (ao : Option Addr) (len cap : Nat) (ss : List ByteArray) : Prop :=
  ss.length = len ∧ len ≤ cap ∧ ((len = 0 ∧ (ao = none → cap = 0)) ∨ ∃ b off, ao = some ⟨b, off, none⟩ ∧ ∀ j (hj : j < ss.length), w.cell? ⟨b, off + j, none⟩ = some (.string ss[j]))

theorem Strs.below {w w' : World} {ao : Option Addr} {len cap : Nat} {ss : List ByteArray} (h : Strs w ao len cap ss) (hb : Below w.heap.size w w') : Strs w' ao len cap ss := by
  refine ⟨h.1, h.2.1, h.2.2.imp id ?_⟩
  rintro ⟨b, off, e, hc⟩
  refine ⟨b, off, e, fun j hj => ?_⟩
  have hlt : b < w.heap.size := World.block_lt_of_cell? w ⟨b, off + j, none⟩ (hc j hj)
  rw [hb.cell (p := ⟨b, off + j, none⟩) hlt]
  exact hc j hj

theorem Strs.at {w : World} {ao : Option Addr} {len cap : Nat} {ss : List ByteArray} (h : Strs w ao len cap ss) (hlen : 0 < len) : ∃ b off, ao = some ⟨b, off, none⟩ ∧ b < w.heap.size ∧ ∀ j (hj : j < ss.length), w.cell? ⟨b, off + j, none⟩ = some (.string ss[j]) := by
  obtain ⟨b, off, e, hc⟩ := h.2.2.resolve_left (fun h => by omega)
  exact ⟨b, off, e, World.block_lt_of_cell? w ⟨b, off + 0, none⟩ (hc 0 (by have := h.1; omega)), hc⟩

theorem info32 : (Try.prog.info? 32).map (fun i => (i.zero, i.size, i.bytes)) = some (some (.pointer none), 1, 8) := by kernel_rfl

/-- After k rounds: the first k places lead to declarations. -/
structure Made (w wr : World) (n : Nat) (ns : List (ByteArray × ByteArray)) (k : Nat) (cur : List Value) : Prop where
  below : Below w.heap.size w wr
  own : wr.ownsRow w.heap.size 32 1 (.slice (some ⟨w.heap.size, 0, none⟩) n n) n cur
  done : ∀ i (hi : i < ns.length), i < k → ∃ d, cur[i]? = some (.pointer (some ⟨d, 0, none⟩)) ∧ w.heap.size < d ∧ wr.cell? ⟨d, 0, none⟩ = some (.string ns[i].1) ∧ wr.cell? ⟨d, 1, none⟩ = some (.string ns[i].2)

theorem Made.step {w wr : World} {n : Nat} {ns : List (ByteArray × ByteArray)} {k : Nat} {cur : List Value} (h : Made w wr n ns k cur) (hk : k < ns.length) (hn : ns.length = n) (more : List Value) :
    Made w ((wr.setCell ⟨w.heap.size, k, none⟩ (.pointer (some ⟨wr.heap.size, 0, none⟩))).alloc (.cells (.string ns[k].1 :: .string ns[k].2 :: more).toArray 58)).drew n ns (k + 1) (cur.set k (.pointer (some ⟨wr.heap.size, 0, none⟩))) := by
  have hcl : cur.length = n := by simpa using h.own.1
  have hz : (wr.setCell ⟨w.heap.size, k, none⟩ (.pointer (some ⟨wr.heap.size, 0, none⟩))).heap.size = wr.heap.size := by simp
  have z0 : w.heap.size < wr.heap.size := (h.own.lt w.heap.size rfl).2
  refine ⟨((h.below.setCell (Nat.le_refl _) _).alloc (by rw [hz]; omega) _).drew, ((h.own.stored k _).1.alloc _), fun i hi hik => ?_⟩
  rcases Nat.lt_or_ge i k with hlt | hge
  · obtain ⟨d, hc, hd, h0, h1⟩ := h.done i hi hlt
    have hdz : d < wr.heap.size := World.block_lt_of_cell? wr ⟨d, 0, none⟩ h0
    refine ⟨d, by rw [List.getElem?_set_ne (by omega)]; exact hc, hd, ?_, ?_⟩
    · show ((wr.setCell _ _).alloc _).cell? _ = _
      rw [World.cell?_alloc_lt _ _ _ (by rw [hz]; exact hdz), World.cell?_setCell_other _ _ _ _ (fun e => by have := congrArg Addr.block e; simp at this; omega)]
      exact h0
    · show ((wr.setCell _ _).alloc _).cell? _ = _
      rw [World.cell?_alloc_lt _ _ _ (by rw [hz]; exact hdz), World.cell?_setCell_other _ _ _ _ (fun e => by have := congrArg Addr.block e; simp at this; omega)]
      exact h1
  · obtain rfl : i = k := by omega
    refine ⟨wr.heap.size, by rw [List.getElem?_set_self (by omega)], z0, ?_, ?_⟩
    · show ((wr.setCell _ _).alloc _).cell? _ = _
      rw [World.cell?_alloc_at _ _ _ _ hz.symm]
      rfl
    · show ((wr.setCell _ _).alloc _).cell? _ = _
      rw [World.cell?_alloc_at _ _ _ _ hz.symm]
      rfl

theorem Made.end {w wr : World} {n : Nat} {ns : List (ByteArray × ByteArray)} {cur : List Value} (h : Made w wr n ns n cur) (hn : ns.length = n) (more : List Value) :
    AList (wr.alloc (.cells (.slice (some ⟨w.heap.size, 0, none⟩) n n :: more).toArray 65)) wr.heap.size ns ∧ Below w.heap.size w (wr.alloc (.cells (.slice (some ⟨w.heap.size, 0, none⟩) n n :: more).toArray 65)) := by
  have hb : Below wr.heap.size wr (wr.alloc (.cells (.slice (some ⟨w.heap.size, 0, none⟩) n n :: more).toArray 65)) := (Below.refl _ _).alloc (Nat.le_refl _) _
  have z0 : w.heap.size < wr.heap.size := (h.own.lt w.heap.size rfl).2
  refine ⟨⟨w.heap.size, ?_, ?_⟩, h.below.trans (hb.mono (by omega))⟩
  · rw [World.cell?_alloc_at _ _ _ _ rfl, hn]
    rfl
  · have hD : Decls wr w.heap.size ns := by
      intro i hi
      obtain ⟨d, hc, _, h0, h1⟩ := h.done i hi (by omega)
      exact ⟨d, (h.own.cellAt i (by omega)).trans hc, h0, h1⟩
    exact hD.below hb

theorem newList14 (so lo : Option Addr) (n cs cl : Nat) (ss ls : List ByteArray) (w : World) (hs : Strs w so n cs ss) (hl : Strs w lo n cl ls) (hn : n ≤ 2000000) :
    Calls Try.prog 14 #[.slice so n cs, .slice lo n cl] w fun e w' => (∃ L, e = .returned (.pointer (some ⟨L, 0, none⟩)) ∧ AList w' L (ss.zip ls)) ∧ Below w.heap.size w w' := by
  obtain ⟨i0, hi, hi0, hi1, hi2⟩ := info_parts info32
  obtain ⟨ns, hns⟩ : ∃ ns, ns = ss.zip ls := ⟨_, rfl⟩
  have hnl : ns.length = n := by rw [hns, List.length_zip, hs.1, hl.1]; omega
  rw [← hns]
  go_enter Try.func14, Try.ntmps14
  go_wp2_with (at_make; refine wpList_make_full _ rfl _ _ 52 rfl w.heap.size 32 i0 (.pointer none) 1 Try.underlying52 hi hi0 hi1 .i64 .i64 _ _ n rfl rfl (by omega) (by omega) (by rw [hi2]; omega) (by unfold maxLen; omega) (Nat.le_refl _) ?_; intro w1 made1 hg1)
  clear hi hi0 hi1 hi2
  have hm0 : Made w w1 n ns 0 _ := ⟨(Below.refl _ _).grown hg1 (Nat.le_refl _) (fun k e => by cases e), made1, fun i _ h => by omega⟩
  generalize (madeCells (Value.pointer none).cells (n * 1)).toList = cur0 at *
  clear made1 hg1
  go_loopw [12, 6] (fun t _ wr => ∃ (k : Nat) (cur : List Value), k ≤ n ∧ t = .int .i64 k ∧ Made w wr n ns k cur) (fun t _ _ => n - (intOf t).toNat)
  case atStart => exact ⟨0, cur0, Nat.zero_le _, rfl, hm0⟩
  case round =>
    obtain ⟨k, cur, hk, rfl, hm⟩ := hrel
    clear hm0
    by_cases hlt : k < n
    · obtain ⟨b1, o1, e1, hb1, hc1⟩ := hs.at (by omega)
      obtain ⟨b2, o2, e2, hb2, hc2⟩ := hl.at (by omega)
      have i0 : (k : Int) < (n : Int) := by omega
      have hks : k < ss.length := by rw [hs.1]; exact hlt
      have hkl : k < ls.length := by rw [hl.1]; exact hlt
      have hkn : k < ns.length := by omega
      have c1 : wr.cell? ⟨b1, o1 + k, none⟩ = some (.string ss[k]) := (hm.below.cell (p := ⟨b1, o1 + k, none⟩) hb1).trans (hc1 k hks)
      have c2 : wr.cell? ⟨b2, o2 + k, none⟩ = some (.string ls[k]) := (hm.below.cell (p := ⟨b2, o2 + k, none⟩) hb2).trans (hc2 k hkl)
      have hk1 : ns[k].1 = ss[k] := by simp [hns]
      have hk2 : ns[k].2 = ls[k] := by simp [hns]
      obtain ⟨s, hsk⟩ : ∃ s, s = ss[k] := ⟨_, rfl⟩
      obtain ⟨l, hlk⟩ : ∃ l, l = ls[k] := ⟨_, rfl⟩
      rw [← hsk] at c1 hk1
      rw [← hlk] at c2 hk2
      have Hk1 : Hid (ns[k].1 = s) := hk1
      have Hk2 : Hid (ns[k].2 = l) := hk2
      have hcl : cur.length = n := by simpa using hm.own.1
      obtain ⟨u, hu⟩ : ∃ u, cur[k]? = some u := ⟨_, List.getElem?_eq_getElem (by omega)⟩
      have cD : wr.cell? ⟨w.heap.size, k, none⟩ = some u := (hm.own.cellAt k (by omega)).trans hu
      have fD : wr.frozen? ⟨w.heap.size, k, none⟩ = false := hm.own.frozenAt k
      have z0 : w.heap.size < wr.heap.size := World.block_lt_of_cell? wr ⟨w.heap.size, k, none⟩ cD
      have z1 : b1 < wr.heap.size := by omega
      have z2 : b2 < wr.heap.size := by omega
      have n1 : ¬ b1 = w.heap.size := by omega
      have n2 : ¬ b2 = w.heap.size := by omega
      have q1 : ∀ v, (wr.setCell ⟨w.heap.size, k, none⟩ v).cell? ⟨b1, o1 + k, none⟩ = some (.string s) := fun v => by rw [World.cell?_setCell_other _ _ _ _ (fun e => n1 (congrArg Addr.block e).symm)]; exact c1
      have q2 : ∀ v, (wr.setCell ⟨w.heap.size, k, none⟩ v).cell? ⟨b2, o2 + k, none⟩ = some (.string l) := fun v => by rw [World.cell?_setCell_other _ _ _ _ (fun e => n2 (congrArg Addr.block e).symm)]; exact c2
      have Hm : Hid (Made w wr n ns k cur) := hm
      clear hm hc1 hc2 hk1 hk2 hsk hlk hu hks hkl
      subst e1 e2
      go_wp2
      go_region_held3 (fun w' => w'.cell? ⟨b1, o1 + k, none⟩ = some (.string s) ∧ w'.cell? ⟨b2, o2 + k, none⟩ = some (.string l)) (go_keep) (fail)
      go_wp2
      have hst := Hm.out.step hkn hnl [.slice none 0 0, .int .u64 0, .int .i32 0, .int .i32 0, .int .i32 0, .bool false, .int .u8 0]
      rw [Hk1.out, Hk2.out] at hst
      exact ⟨⟨k + 1, _, by omega, by go_num, hst⟩, by simp [intOf]; omega⟩
    · obtain rfl : k = n := by omega
      have Hm : Hid (Made w wr k ns k cur) := hm
      clear hm
      go_wp2
      go_ret
      obtain ⟨h1, h2⟩ := Hm.out.end hnl [.slice none 0 0, .slice none 0 0, .int .i64 0, .bool false, .slice none 0 0, .slice none 0 0, .slice none 0 0, .pointer none, .slice none 0 0, .slice none 0 0, .slice none 0 0, .slice none 0 0]
      exact ⟨⟨_, rfl, h1⟩, h2⟩

/-! ### The counting and checking -/

theorem stringsSize25 (so : Option Addr) (n c : Nat) (ss : List ByteArray) (room : Int) (w : World) (hs : Strs w so n c ss) (hn : n ≤ 1048576) (hz : ∀ s ∈ ss, s.size ≤ 1048576) (hr0 : 0 ≤ room) (hr1 : room ≤ 1048576) :
    Calls Try.prog 25 #[.slice so n c, .int .i64 room] w fun e w' => (∃ r : Int, e = .returned (.int .i64 r) ∧ 0 ≤ r ∧ r ≤ 4000000) ∧ w' = w := by
  go_enter Try.func25, Try.ntmps25
  go_wp2
  go_loop [5, 6] (fun t i => ∃ (k : Nat) (r : Int), k ≤ n ∧ i = .int .i64 k ∧ t = .int .i64 r ∧ 0 ≤ r ∧ r ≤ 1048576) (fun _ i => n - (intOf i).toNat)
  case atStart => exact ⟨0, 0, Nat.zero_le _, rfl, rfl, by omega, by omega⟩
  case round =>
    obtain ⟨k, r, hk, rfl, rfl, hr2, hr3⟩ := hrel
    by_cases hlt : k < n
    · have i0 : (k : Int) < (n : Int) := by omega
      obtain ⟨b, off, e, hb, hc⟩ := hs.at (by omega)
      have hkl : k < ss.length := by rw [hs.1]; exact hlt
      have c1 := hc k hkl
      have hsz := hz _ (List.getElem_mem hkl)
      generalize ss[k] = s at *
      have hsz' : (s.size : Int) ≤ 1048576 := by omega
      clear hc hz hs
      subst e
      by_cases hgt : room < r + (16 + (s.size : Int))
      · go_wp2
        go_ret
        exact ⟨⟨_, rfl, by omega, by omega⟩, rfl⟩
      · go_wp2
        exact ⟨⟨k + 1, _, by omega, by go_num, rfl, by omega, by omega⟩, by simp [intOf]; omega⟩
    · go_wp2
      go_ret
      exact ⟨⟨_, rfl, by omega, by omega⟩, rfl⟩

theorem roomAfter10 (so lo : Option Addr) (n c m d : Nat) (ss ls : List ByteArray) (w : World) (hs : Strs w so n c ss) (hl : Strs w lo m d ls) (hn : n ≤ 1048576) (hm : m ≤ 1048576) (hz : ∀ s ∈ ss, s.size ≤ 1048576) (hy : ∀ s ∈ ls, s.size ≤ 1048576) :
    Calls Try.prog 10 #[.slice so n c, .slice lo m d] w fun e w' => (∃ r : Int, e = .returned (.int .i64 r) ∧ -1 ≤ r ∧ r ≤ 1048576) ∧ w' = w := by
  go_enter Try.func10, Try.ntmps10
  go_wp2_with fail
  refine (stringsSize25 so n c ss _ w hs hn hz (by omega) (by omega)).mono ?_
  rintro e w ⟨⟨r, rfl, hr0, hr1⟩, rfl⟩
  by_cases h : 1048576 < r
  · go_wp2_with fail
    go_ret
    exact ⟨⟨_, rfl, by omega, by omega⟩, rfl⟩
  · go_wp2_with fail
    refine (stringsSize25 lo m d ls _ w hl hm hy (by omega) (by omega)).mono ?_
    rintro e w ⟨⟨r2, rfl, hr2, hr3⟩, rfl⟩
    by_cases h2 : 1048576 - r < r2
    · go_wp2_with fail
      go_ret
      exact ⟨⟨_, rfl, by omega, by omega⟩, rfl⟩
    · go_wp2_with fail
      go_ret
      exact ⟨⟨_, rfl, by omega, by omega⟩, rfl⟩

/-- After k places: each of the first k names is less than its next. -/
def Up (ns : List (ByteArray × ByteArray)) (k : Nat) : Prop := ∀ j (h : j + 1 < ns.length), j + 1 < k → cmpN (ns[j]'(by omega)) ns[j + 1] < 0
theorem Up.step {ns : List (ByteArray × ByteArray)} {j : Nat} (h : Up ns (j + 1)) (hj : j + 1 < ns.length) (hc : cmpN (ns[j]'(by omega)) ns[j + 1] < 0) : Up ns (j + 1 + 1) := by
  intro i hi hik
  rcases Nat.lt_or_ge i j with hlt | hge
  · exact h i hi (by omega)
  · obtain rfl : i = j := by omega
    exact hc

/-- What zzIncreasing hands back. -/
def Inc (e : Ending) (ns : List (ByteArray × ByteArray)) : Prop := ∃ b : Bool, e = .returned (.bool b) ∧ (b = true → Sorted ns)

/-- zzIncreasing: if it says yes the first n names increase. -/
theorem increasing12 (so lo : Option Addr) (p c q d n : Nat) (ss ls : List ByteArray) (w : World) (hs : Strs w so p c ss) (hl : Strs w lo q d ls) (hp : n ≤ p) (hq : n ≤ q) (hn : n ≤ 1048576) (hz : ∀ s ∈ ss, s.size ≤ 1048576) (hy : ∀ s ∈ ls, s.size ≤ 1048576) :
    Calls Try.prog 12 #[.slice so p c, .slice lo q d, .int .i64 n] w fun e w' => Inc e ((ss.zip ls).take n) ∧ ∃ k, w' = w.drewN k := by
  obtain ⟨ns, hns⟩ : ∃ ns, ns = (ss.zip ls).take n := ⟨_, rfl⟩
  have hnl : ns.length = n := by rw [hns]; simp [hs.1, hl.1]; omega
  rw [← hns]
  go_enter Try.func12, Try.ntmps12
  go_wp2
  go_loopw [7] (fun i wr => ∃ j : Nat, (j + 1 ≤ n ∨ j = 0) ∧ i = .int .i64 ((j + 1 : Nat) : Int) ∧ Up ns (j + 1) ∧ ∃ q, wr = w.drewN q) (fun i _ => n - (intOf i).toNat)
  case atStart => exact ⟨0, .inr rfl, rfl, fun j _ h => by omega, 0, rfl⟩
  case round =>
    obtain ⟨j, hkn, rfl, hpre, qq, hwr⟩ := hrel
    have Hw : Hid (wr = w.drewN qq) := hwr
    clear hwr
    have HU : Hid (Up ns (j + 1)) := hpre
    clear hpre
    by_cases hlt : j + 1 < n
    · obtain ⟨b1, o1, e1, hb1, hc1⟩ := hs.at (by omega)
      obtain ⟨b2, o2, e2, hb2, hc2⟩ := hl.at (by omega)
      have s0 : j < ss.length := by rw [hs.1]; omega
      have s1 : j + 1 < ss.length := by rw [hs.1]; omega
      have l0 : j < ls.length := by rw [hl.1]; omega
      have l1 : j + 1 < ls.length := by rw [hl.1]; omega
      have c1 : wr.cell? ⟨b1, o1 + j, none⟩ = some (.string ss[j]) := by rw [Hw.out]; exact hc1 j s0
      have c2 : wr.cell? ⟨b1, o1 + (j + 1), none⟩ = some (.string ss[j + 1]) := by rw [Hw.out]; exact hc1 (j + 1) s1
      have c3 : wr.cell? ⟨b2, o2 + j, none⟩ = some (.string ls[j]) := by rw [Hw.out]; exact hc2 j l0
      have c4 : wr.cell? ⟨b2, o2 + (j + 1), none⟩ = some (.string ls[j + 1]) := by rw [Hw.out]; exact hc2 (j + 1) l1
      have y1 := hz _ (List.getElem_mem s0)
      have y2 := hz _ (List.getElem_mem s1)
      have y3 := hy _ (List.getElem_mem l0)
      have y4 := hy _ (List.getElem_mem l1)
      obtain ⟨x1, hx1⟩ : ∃ x, ss[j] = x := ⟨_, rfl⟩
      obtain ⟨x2, hx2⟩ : ∃ x, ss[j + 1] = x := ⟨_, rfl⟩
      obtain ⟨x3, hx3⟩ : ∃ x, ls[j] = x := ⟨_, rfl⟩
      obtain ⟨x4, hx4⟩ : ∃ x, ls[j + 1] = x := ⟨_, rfl⟩
      rw [hx1] at c1 y1
      rw [hx2] at c2 y2
      rw [hx3] at c3 y3
      rw [hx4] at c4 y4
      have hjn : j + 1 < ns.length := by omega
      have hv0 : ns[j] = (x1, x3) := by simp [hns, hx1, hx3]
      have hv1 : ns[j + 1] = (x2, x4) := by simp [hns, hx2, hx4]
      have hv : Hid (cmpN ns[j] ns[j + 1] = cmpN (x1, x3) (x2, x4)) := by rw [hv0, hv1]; exact rfl
      have i0 : (j : Int) + 1 < (n : Int) := by omega
      have i1 : (j : Int) + 1 < (p : Int) := by omega
      have i2 : (j : Int) + 1 < (q : Int) := by omega
      have i3 : (j : Int) < (p : Int) := by omega
      have i4 : (j : Int) < (q : Int) := by omega
      have i5 : (0 : Int) ≤ (j : Int) + 1 := by omega
      have i6 : ((j : Int) + 1).toNat = j + 1 := by omega
      have hwj : IntKind.i64.wrap (j : Int) = (j : Int) := Go.IntWalk.i64_in _ (by omega)
      clear hc1 hc2 hs hl hz hy hns hx1 hx2 hx3 hx4 hv0 hv1
      subst e1 e2
      go_wp2
      go_quiet ((go_at_call 13; exact Calls.quiet_of (compareNames13 x1 x3 x2 x4 _ y1 y3 y2 y4)))
      generalize cmpN (x1, x3) (x2, x4) = v at *
      by_cases hc : 0 ≤ v
      · go_wp2
        go_ret
        exact ⟨⟨false, rfl, fun h => by cases h⟩, by rw [Hw.out]; exact qt2 _ _ _⟩
      · go_wp2
        exact ⟨⟨j + 1, .inl (by omega), by go_num, HU.out.step hjn (by rw [hv.out]; omega), by rw [Hw.out]; exact qt2 _ _ _⟩, by simp [intOf]; omega⟩
    · have hge : ¬ (j : Int) + 1 < (n : Int) := by omega
      clear hns
      go_wp2
      go_ret
      refine ⟨⟨true, rfl, fun _ => sorted_of_next fun i hi => HU.out i hi (by omega)⟩, _, Hw.out⟩

end Go.Proofs.Qxb6608526a.Attr
