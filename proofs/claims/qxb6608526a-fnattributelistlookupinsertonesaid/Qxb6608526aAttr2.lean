import Derived.Test.Qxb6608526aAttr
import Derived.Deep.RegionHeld3
namespace Go.Proofs.Qxb6608526a.Attr
open Go.RowKit Names
set_option linter.unusedVariables false

set_option maxHeartbeats 1000000 in
theorem compareNames33 (a b c d : ByteArray) (w : World) :
    Calls Try.prog 33 #[.agg #[.string a, .string b], .agg #[.string c, .string d]] w fun e w' => e = .returned (.int .i64 (cmpN (a, b) (c, d))) ∧ Below w.heap.size w w' := by
  go_enter Try.func33, Try.ntmps33
  go_wp2
  go_region_held3 (fun w' => w'.cell? ⟨w.heap.size, 0, none⟩ = some (.string a) ∧ w'.cell? ⟨w.heap.size, 1, none⟩ = some (.string b) ∧ w'.cell? ⟨w.heap.size + 1, 0, none⟩ = some (.string c) ∧ w'.cell? ⟨w.heap.size + 1, 1, none⟩ = some (.string d)) (go_keep)
    (first
      | (go_at_call 35; refine (compare35 _ _ _).mono ?_; rintro e w' ⟨rfl, rfl⟩)
      | (go_at_call 34; refine (or34 _ (cmpS a c) (cmpS b d) _ (by go_simp) (by go_simp)).mono ?_; rintro e w' ⟨rfl, rfl⟩))
  go_wp2
  go_ret
  exact ⟨rfl, ((((Below.refl _ _).alloc (Nat.le_refl _) _).alloc (by simp) _).alloc (by simp; omega) _).drew⟩

theorem bcell {W w1 : World} (hb : Below W.heap.size W w1) : ∀ b o, b < W.heap.size → w1.cell? ⟨b, o, none⟩ = W.cell? ⟨b, o, none⟩ :=
  fun b o h => hb.cell (p := ⟨b, o, none⟩) h

/-- The closure that lookup hands to the search. -/
theorem closure32 (d : Nat) (s l qs ql : ByteArray) (w : World) (h0 : w.cell? ⟨d, 0, none⟩ = some (.string s)) (h1 : w.cell? ⟨d, 1, none⟩ = some (.string l)) :
    Calls Try.prog 32 #[.pointer (some ⟨d, 0, none⟩), .agg #[.string qs, .string ql]] w fun e w' => e = .returned (.int .i64 (cmpN (s, l) (qs, ql))) ∧ Below w.heap.size w w' := by
  have hd : d < w.heap.size := World.block_lt_of_cell? w ⟨d, 0, none⟩ h0
  have hd1 : d < w.heap.size + 1 := by omega
  go_enter Try.func32, Try.ntmps32
  go_wp2
  go_region_held3 (fun w' => w'.cell? ⟨w.heap.size, 0, none⟩ = some (.string qs) ∧ w'.cell? ⟨w.heap.size, 1, none⟩ = some (.string ql) ∧ w'.cell? ⟨d, 0, none⟩ = some (.string s) ∧ w'.cell? ⟨d, 1, none⟩ = some (.string l)) (go_keep)
    (first
      | (go_at_call 33; refine (compareNames33 _ _ _ _ _).mono ?_; rintro e w1 ⟨rfl, hb⟩; have hc := bcell hb))
  go_wp2
  go_ret
  exact ⟨rfl, (((Below.refl _ _).alloc (Nat.le_refl _) _).drew).trans (hb.mono (by simp))⟩

/-- A row of pointers to declarations: their names. -/
def Decls (w : World) (D : Nat) (ns : List (ByteArray × ByteArray)) : Prop :=
  ∀ i (hi : i < ns.length), ∃ d, w.cell? ⟨D, i, none⟩ = some (.pointer (some ⟨d, 0, none⟩)) ∧ w.cell? ⟨d, 0, none⟩ = some (.string ns[i].1) ∧ w.cell? ⟨d, 1, none⟩ = some (.string ns[i].2)

theorem Decls.below {w w' : World} {D : Nat} {ns : List (ByteArray × ByteArray)} (h : Decls w D ns) (hb : Below w.heap.size w w') : Decls w' D ns := by
  intro i hi
  obtain ⟨d, h0, h1, h2⟩ := h i hi
  refine ⟨d, ?_, ?_, ?_⟩
  · rw [hb.cell (p := ⟨D, i, none⟩) (World.block_lt_of_cell? w ⟨D, i, none⟩ h0)]; exact h0
  · rw [hb.cell (p := ⟨d, 0, none⟩) (World.block_lt_of_cell? w ⟨d, 0, none⟩ h1)]; exact h1
  · rw [hb.cell (p := ⟨d, 1, none⟩) (World.block_lt_of_cell? w ⟨d, 1, none⟩ h2)]; exact h2

/-- All below a are less than q; none from b on is. -/
structure Between (ns : List (ByteArray × ByteArray)) (q : ByteArray × ByteArray) (a b : Nat) : Prop where
  lo : ∀ k (hk : k < ns.length), k < a → cmpN ns[k] q < 0
  hi : ∀ k (hk : k < ns.length), b ≤ k → 0 ≤ cmpN ns[k] q

theorem search31 (D n c : Nat) (ns : List (ByteArray × ByteArray)) (hl : ns.length = n) (hn : n ≤ 2000000) (qs ql : ByteArray) (w : World) (hD : Decls w D ns) (hs : Sorted ns) :
    Calls Try.prog 31 #[.slice (some ⟨D, 0, none⟩) n c, .agg #[.string qs, .string ql], .func (.func 32) #[] #[]] w fun e w' =>
      ∃ (i : Nat) (b : Bool), e = .returned (.tuple #[.int .i64 i, .bool b]) ∧ (b = true → ∃ h : i < ns.length, ns[i] = (qs, ql)) ∧ (b = false → (qs, ql) ∉ ns) ∧ Below w.heap.size w w' := by
  go_enter Try.func31, Try.ntmps31
  go_wp2_with fail
  have hB0 : Below (w.heap.size + 1) (w.alloc (.cells #[.string qs, .string ql] 54)) (w.alloc (.cells #[.string qs, .string ql] 54)) := Below.refl _ _
  go_loopw [9, 10, 11] (fun i j _ wr => ∃ a b : Nat, a ≤ b ∧ b ≤ n ∧ i = .int .i64 a ∧ j = .int .i64 b ∧ Between ns (qs, ql) a b ∧ Below (w.heap.size + 1) (w.alloc (.cells #[.string qs, .string ql] 54)) wr) (fun i j _ _ => (intOf j).toNat - (intOf i).toNat)
  case atStart => exact ⟨0, n, Nat.zero_le _, Nat.le_refl _, rfl, rfl, ⟨fun k _ h => by omega, fun k hk h => by omega⟩, hB0⟩
  case round =>
    obtain ⟨a, b, hab, hbn, rfl, rfl, hbt, hB⟩ := hrel
    clear hB0
    by_cases hlt : a < b
    · have i0 : (a : Int) < (b : Int) := by omega
      have i1 : (b : Int) ≤ 2000000 := by omega
      go_wp2
      have hmid : ((a : Int) + (b : Int)) / 2 = (((a + b) / 2 : Nat) : Int) := by omega
      have hma : a ≤ (a + b) / 2 := by omega
      have hmb : (a + b) / 2 < b := by omega
      rw [hmid]
      generalize (a + b) / 2 = m at *
      clear hmid
      have hmn : m < ns.length := by omega
      have i2 : (m : Int) < (n : Int) := by omega
      have hDr : Decls wr D ns := (hD.below ((Below.refl _ _).alloc (Nat.le_refl _) _ |>.trans (hB.mono (by omega))))
      obtain ⟨d, hp, hd0, hd1⟩ := hDr m hmn
      have hz : w.heap.size < wr.heap.size := by have := hB.size; simp at this; omega
      have hDz : D < wr.heap.size := World.block_lt_of_cell? wr ⟨D, m, none⟩ hp
      have hq0 : wr.cell? ⟨w.heap.size, 0, none⟩ = some (.string qs) := by rw [hB.cell (p := ⟨w.heap.size, 0, none⟩) (by simp)]; go_simp
      have hq1 : wr.cell? ⟨w.heap.size, 1, none⟩ = some (.string ql) := by rw [hB.cell (p := ⟨w.heap.size, 1, none⟩) (by simp)]; go_simp
      obtain ⟨s, l, hsl⟩ : ∃ s l, ns[m] = (s, l) := ⟨_, _, rfl⟩
      rw [hsl] at hd0 hd1
      have hv := cmpN_range (s, l) (qs, ql)
      have Hsl : Hid (cmpN ns[m] (qs, ql) = cmpN (s, l) (qs, ql)) := by rw [hsl]; exact rfl
      clear hDr hsl hD
      go_region_held3 (fun w' => w'.cell? ⟨D, m, none⟩ = some (.pointer (some ⟨d, 0, none⟩)) ∧ w'.cell? ⟨w.heap.size, 0, none⟩ = some (.string qs) ∧ w'.cell? ⟨w.heap.size, 1, none⟩ = some (.string ql)) (go_keep)
        (first
          | (go_at_call 32; refine (closure32 d s l qs ql _ (by go_simp) (by go_simp)).mono ?_; rintro e w1 ⟨rfl, hb⟩; have k0 := (hb.cell (p := ⟨D, m, none⟩) hDz).trans hp; have k1 := (hb.cell (p := ⟨w.heap.size, 0, none⟩) hz).trans hq0; have k2 := (hb.cell (p := ⟨w.heap.size, 1, none⟩) hz).trans hq1))
      generalize cmpN (s, l) (qs, ql) = v at *
      have hB1 : Below (w.heap.size + 1) (w.alloc (.cells #[.string qs, .string ql] 54)) w1 := hB.drew.trans (hb.mono (Nat.succ_le_of_lt hz))
      clear hb k0 k1 k2 hp hd0 hd1 hq0 hq1 hDz hz hB
      by_cases hc : v < 0
      · go_wp2
        exact ⟨⟨m + 1, b, by omega, hbn, by go_num, rfl, ⟨search_up hs _ m hmn (by rw [Hsl.out]; exact hc), hbt.hi⟩, hB1⟩, by simp [intOf]; omega⟩
      · go_wp2
        exact ⟨⟨a, m, by omega, by omega, rfl, rfl, ⟨hbt.lo, search_down hs _ m hmn (by rw [Hsl.out]; omega)⟩, hB1⟩, by simp [intOf]; omega⟩
    · obtain rfl : a = b := by omega
      have hend := search_end hs (qs, ql) a hbt.lo hbt.hi
      have Hend : Hid ((qs, ql) ∈ ns ↔ ∃ hi : a < ns.length, cmpN ns[a] (qs, ql) = 0) := hend
      clear hend hbt hs hab
      by_cases han : a < n
      · have i0 : (a : Int) < (n : Int) := by omega
        have hal : a < ns.length := by omega
        obtain ⟨d, hp, hd0, hd1⟩ := (hD.below ((Below.refl _ _).alloc (Nat.le_refl _) _ |>.trans (hB.mono (by omega)))) a hal
        have hz : w.heap.size < wr.heap.size := by have := hB.size; simp at this; omega
        have hDz : D < wr.heap.size := World.block_lt_of_cell? wr ⟨D, a, none⟩ hp
        have hq0 : wr.cell? ⟨w.heap.size, 0, none⟩ = some (.string qs) := by rw [hB.cell (p := ⟨w.heap.size, 0, none⟩) (by simp)]; go_simp
        have hq1 : wr.cell? ⟨w.heap.size, 1, none⟩ = some (.string ql) := by rw [hB.cell (p := ⟨w.heap.size, 1, none⟩) (by simp)]; go_simp
        obtain ⟨s, l, hsl⟩ : ∃ s l, ns[a] = (s, l) := ⟨_, _, rfl⟩
        rw [hsl] at hd0 hd1
        have hv := cmpN_range (s, l) (qs, ql)
        have Hsl : Hid (cmpN ns[a] (qs, ql) = cmpN (s, l) (qs, ql)) := by rw [hsl]; exact rfl
        clear hsl hD
        go_wp2
        go_region_held3 (fun w' => w'.cell? ⟨D, a, none⟩ = some (.pointer (some ⟨d, 0, none⟩)) ∧ w'.cell? ⟨w.heap.size, 0, none⟩ = some (.string qs) ∧ w'.cell? ⟨w.heap.size, 1, none⟩ = some (.string ql)) (go_keep)
          (first
            | (go_at_call 32; refine (closure32 d s l qs ql _ (by go_simp) (by go_simp)).mono ?_; rintro e w1 ⟨rfl, hb⟩; have k0 := (hb.cell (p := ⟨D, a, none⟩) hDz).trans hp; have k1 := (hb.cell (p := ⟨w.heap.size, 0, none⟩) hz).trans hq0; have k2 := (hb.cell (p := ⟨w.heap.size, 1, none⟩) hz).trans hq1))
        generalize cmpN (s, l) (qs, ql) = v at *
        have hB1 : Below (w.heap.size + 1) (w.alloc (.cells #[.string qs, .string ql] 54)) w1 := hB.drew.trans (hb.mono (Nat.succ_le_of_lt hz))
        have hB2 : Below w.heap.size w w1 := (Below.refl _ _).alloc (Nat.le_refl _) _ |>.trans (hB1.mono (by omega))
        go_wp2
        go_ret2
        refine ⟨a, v == 0, rfl, fun h => ⟨hal, ?_⟩, fun h hq => ?_, hB2⟩
        · exact cmpN_zero (by rw [Hsl.out]; simpa using h)
        · obtain ⟨_, e⟩ := Hend.out.1 hq
          rw [Hsl.out] at e
          simp [e] at h
      · have i0 : decide ((a : Int) < (n : Int)) = false := by simp; omega
        go_wp2
        go_quiet (fail)
        go_wp2
        go_ret2
        have hB2 : Below w.heap.size w wr := (Below.refl _ _).alloc (Nat.le_refl _) _ |>.trans (hB.mono (by omega))
        refine ⟨a, false, rfl, (fun h => by cases h), fun _ hq => ?_, ⟨hB2.os, hB2.tape, hB2.output, hB2.size, hB2.block⟩⟩
        obtain ⟨h, _⟩ := Hend.out.1 hq
        omega


/-- A list of declarations: what ZZnewAttributeList makes. -/
def AList (w : World) (L : Nat) (ns : List (ByteArray × ByteArray)) : Prop :=
  ∃ D, w.cell? ⟨L, 0, none⟩ = some (.slice (some ⟨D, 0, none⟩) ns.length ns.length) ∧ Decls w D ns

theorem AList.below {w w' : World} {L : Nat} {ns : List (ByteArray × ByteArray)} (h : AList w L ns) (hb : Below w.heap.size w w') : AList w' L ns := by
  obtain ⟨D, h0, h1⟩ := h
  exact ⟨D, by rw [hb.cell (p := ⟨L, 0, none⟩) (World.block_lt_of_cell? w ⟨L, 0, none⟩ h0)]; exact h0, h1.below hb⟩

/-- What a look-up hands back: nil where the name is not listed, else a declaration of that name. -/
def Found (w : World) (v : Value) (qs ql : ByteArray) : Prop :=
  ∃ d, v = .pointer (some ⟨d, 0, none⟩) ∧ w.cell? ⟨d, 0, none⟩ = some (.string qs) ∧ w.cell? ⟨d, 1, none⟩ = some (.string ql)

theorem lookup29_nil (qs ql : ByteArray) (w : World) :
    Calls Try.prog 29 #[.pointer none, .agg #[.string qs, .string ql]] w fun e w' => e = .returned (.pointer none) ∧ Below w.heap.size w w' := by
  go_enter Try.func29, Try.ntmps29
  go_wp2
  go_ret
  exact ⟨rfl, (Below.refl _ _).alloc (Nat.le_refl _) _⟩

theorem lookup29 (L : Nat) (ns : List (ByteArray × ByteArray)) (hn : ns.length ≤ 2000000) (qs ql : ByteArray) (w : World) (hA : AList w L ns) (hs : Sorted ns) :
    Calls Try.prog 29 #[.pointer (some ⟨L, 0, none⟩), .agg #[.string qs, .string ql]] w fun e w' =>
      (((qs, ql) ∉ ns ∧ e = .returned (.pointer none)) ∨ ((qs, ql) ∈ ns ∧ ∃ d, e = .returned (.pointer (some ⟨d, 0, none⟩)) ∧ w'.cell? ⟨d, 0, none⟩ = some (.string qs) ∧ w'.cell? ⟨d, 1, none⟩ = some (.string ql))) ∧ Below w.heap.size w w' := by
  obtain ⟨D, hL, hD⟩ := hA
  have hLz : L < w.heap.size := World.block_lt_of_cell? w ⟨L, 0, none⟩ hL
  have hLz1 : L < w.heap.size + 1 := by omega
  go_enter Try.func29, Try.ntmps29
  go_wp2
  go_region_held3 (fun w' => w'.cell? ⟨L, 0, none⟩ = some (.slice (some ⟨D, 0, none⟩) ns.length ns.length) ∧ w'.cell? ⟨w.heap.size, 0, none⟩ = some (.string qs) ∧ w'.cell? ⟨w.heap.size, 1, none⟩ = some (.string ql)) (go_keep)
    (first
      | (go_at_call 31; refine (search31 D _ _ ns rfl hn qs ql _ (hD.below ((Below.refl _ _).alloc (Nat.le_refl _) _).drew) hs).mono ?_; rintro e w1 ⟨i, b, rfl, hyes, hno, hb⟩; have hc := bcell hb))
  have hB1 : Below w.heap.size w w1 := (((Below.refl _ _).alloc (Nat.le_refl _) _).drew).trans (hb.mono (by simp))
  have hL1 : w1.cell? ⟨L, 0, none⟩ = some (.slice (some ⟨D, 0, none⟩) ns.length ns.length) := (hB1.cell (p := ⟨L, 0, none⟩) hLz).trans hL
  have hD1 := hD.below hB1
  clear hc hb hL hD
  cases b with
  | false =>
    have Hno : Hid ((qs, ql) ∉ ns) := hno rfl
    clear hyes hno hD1
    go_wp2
    go_ret
    exact ⟨.inl ⟨Hno.out, rfl⟩, hB1⟩
  | true =>
    obtain ⟨hi, hq⟩ := hyes rfl
    obtain ⟨d, hp, h0, h1⟩ := hD1 i hi
    rw [hq] at h0 h1
    have hmem : (qs, ql) ∈ ns := hq ▸ List.getElem_mem hi
    have Hm : Hid ((qs, ql) ∈ ns) := hmem
    have i0 : (i : Int) < (ns.length : Int) := by omega
    clear hyes hno hD1 hq hmem
    go_wp2
    go_ret
    exact ⟨.inr ⟨Hm.out, d, rfl, h0, h1⟩, hB1⟩

/-- ZZlookup of a nil list. -/
theorem lookup16_nil (qs ql : ByteArray) (w : World) :
    Calls Try.prog 16 #[.pointer none, .string qs, .string ql] w fun e w' => e = .returned (.pointer none) ∧ Below w.heap.size w w' := by
  go_enter Try.func16, Try.ntmps16
  go_wp2_with fail
  refine (lookup29_nil qs ql w).mono ?_
  rintro e w1 ⟨rfl, hb⟩
  go_wp2_with fail
  go_ret
  exact ⟨rfl, hb⟩

/-- ZZlookup: nil where the name is not listed, else a declaration of that name. -/
theorem lookup16 (L : Nat) (ns : List (ByteArray × ByteArray)) (hn : ns.length ≤ 2000000) (qs ql : ByteArray) (w : World) (hA : AList w L ns) (hs : Sorted ns) :
    Calls Try.prog 16 #[.pointer (some ⟨L, 0, none⟩), .string qs, .string ql] w fun e w' =>
      (((qs, ql) ∉ ns ∧ e = .returned (.pointer none)) ∨ ((qs, ql) ∈ ns ∧ ∃ d, e = .returned (.pointer (some ⟨d, 0, none⟩)) ∧ w'.cell? ⟨d, 0, none⟩ = some (.string qs) ∧ w'.cell? ⟨d, 1, none⟩ = some (.string ql))) ∧ Below w.heap.size w w' := by
  go_enter Try.func16, Try.ntmps16
  go_wp2_with fail
  refine (lookup29 L ns hn qs ql w hA hs).mono ?_
  rintro e w1 ⟨⟨hq, rfl⟩ | ⟨hq, d, rfl, h0, h1⟩, hb⟩
  · have Hq : Hid ((qs, ql) ∉ ns) := hq
    clear hq
    go_wp2_with fail
    go_ret
    exact ⟨.inl ⟨Hq.out, rfl⟩, hb⟩
  · have Hq : Hid ((qs, ql) ∈ ns) := hq
    clear hq
    go_wp2_with fail
    go_ret
    exact ⟨.inr ⟨Hq.out, d, rfl, h0, h1⟩, hb⟩

theorem space27 (d : Nat) (s : ByteArray) (w : World) (h0 : w.cell? ⟨d, 0, none⟩ = some (.string s)) :
    Calls Try.prog 27 #[.pointer (some ⟨d, 0, none⟩)] w fun e w' => e = .returned (.string s) ∧ w' = w := by
  go_enter Try.func27, Try.ntmps27
  go_wp2
  go_ret
  exact ⟨rfl, rfl⟩

theorem local28 (d : Nat) (l : ByteArray) (w : World) (h1 : w.cell? ⟨d, 1, none⟩ = some (.string l)) :
    Calls Try.prog 28 #[.pointer (some ⟨d, 0, none⟩)] w fun e w' => e = .returned (.string l) ∧ w' = w := by
  go_enter Try.func28, Try.ntmps28
  go_wp2
  go_ret
  exact ⟨rfl, rfl⟩

theorem declIs_nil (qs ql : ByteArray) (w : World) :
    Calls Try.prog 15 #[.pointer none, .string qs, .string ql] w fun e w' => e = .returned (.bool false) ∧ w' = w := by
  go_enter Try.func15, Try.ntmps15
  go_wp2_with fail
  go_ret
  exact ⟨rfl, rfl⟩

/-- zzDeclIs of a declaration of just that name. -/
theorem declIs_yes (d : Nat) (qs ql : ByteArray) (w : World) (h0 : w.cell? ⟨d, 0, none⟩ = some (.string qs)) (h1 : w.cell? ⟨d, 1, none⟩ = some (.string ql)) :
    Calls Try.prog 15 #[.pointer (some ⟨d, 0, none⟩), .string qs, .string ql] w fun e w' => e = .returned (.bool true) ∧ w' = w := by
  go_enter Try.func15, Try.ntmps15
  go_wp2_with (first
    | (go_at_call 27; refine (space27 d qs _ h0).mono ?_; rintro e w ⟨rfl, rfl⟩)
    | (go_at_call 28; refine (local28 d ql _ h1).mono ?_; rintro e w ⟨rfl, rfl⟩))
  go_ret
  exact ⟨rfl, rfl⟩

end Go.Proofs.Qxb6608526a.Attr
