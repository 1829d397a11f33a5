import Derived.Test.Qxb6608526aAttr3
import Derived.Laws.CopyOwn
import Derived.Deep.DeepCutAuto
namespace Go.Proofs.Qxb6608526a.Attr
open Go.RowKit Names
set_option linter.unusedVariables false

theorem slice_to (so : Option Addr) (p c n : Nat) (hso : so = none ∧ c = 0 ∨ ∃ d, so = some ⟨d, 0, none⟩) (hn : n ≤ c) (w : World) :
    (Instr.slice 23 (.slice so p c) none (some (.int .i64 n)) none).run Try.prog w = .ok (.slice so n c) w := by
  rcases hso with ⟨rfl, rfl⟩ | ⟨d, rfl⟩
  · obtain rfl : n = 0 := by omega
    go_simp
  · have h0 : (0 : Int) ≤ (n : Int) := by omega
    have h1 : (n : Int) ≤ (c : Int) := by omega
    go_simp

/-- Where 's[k:n]' begins. -/
def cutAt (so : Option Addr) (c k : Nat) : Option Addr := if c = k then so else so.map fun a => ⟨a.block, k, none⟩

theorem slice_from (so : Option Addr) (p c k n : Nat) (hso : so = none ∧ c = 0 ∨ ∃ d, so = some ⟨d, 0, none⟩) (hk : k ≤ n) (hn : n ≤ c) (w : World) :
    (Instr.slice 23 (.slice so p c) (some (.int .i64 k)) (some (.int .i64 n)) none).run Try.prog w = .ok (.slice (cutAt so c k) (n - k) (c - k)) w := by
  unfold cutAt
  rcases hso with ⟨rfl, rfl⟩ | ⟨d, rfl⟩
  · obtain rfl : n = 0 := by omega
    obtain rfl : k = 0 := by omega
    go_simp
  · have h0 : (0 : Int) ≤ (n : Int) := by omega
    have h1 : (n : Int) ≤ (c : Int) := by omega
    have h2 : (k : Int) ≤ (n : Int) := by omega
    go_simp

/-- Our own copy of a slice of strings: nil, or at its row's head. -/
structure Own (w : World) (so : Option Addr) (n : Nat) (ss : List ByteArray) : Prop where
  strs : Strs w so n n ss
  head : so = none ∧ n = 0 ∨ ∃ d, so = some ⟨d, 0, none⟩

theorem Own.below {w w' : World} {so : Option Addr} {n : Nat} {ss : List ByteArray} (h : Own w so n ss) (hb : Below w.heap.size w w') : Own w' so n ss := ⟨h.strs.below hb, h.head⟩

theorem Own.take {w : World} {so : Option Addr} {n : Nat} {ss : List ByteArray} (h : Own w so n ss) (k : Nat) (hk : k ≤ n) : Strs w so k n (ss.take k) := by
  have hl := h.strs.1
  refine ⟨by simp [hl]; omega, hk, ?_⟩
  rcases h.strs.2.2 with ⟨h0, h1⟩ | ⟨b, off, e, hc⟩
  · exact .inl ⟨by omega, h1⟩
  · exact .inr ⟨b, off, e, fun j hj => by rw [List.getElem_take]; exact hc j (by simp at hj; omega)⟩

theorem Own.drop {w : World} {so : Option Addr} {n : Nat} {ss : List ByteArray} (h : Own w so n ss) (k m : Nat) (hk : k ≤ m) (hm : m ≤ n) : Strs w (cutAt so n k) (m - k) (n - k) ((ss.take m).drop k) := by
  have hl := h.strs.1
  refine ⟨by simp [hl]; omega, by omega, ?_⟩
  by_cases hkn : n = k
  · refine .inl ⟨by omega, fun _ => by omega⟩
  · rcases h.strs.2.2 with ⟨h0, h1⟩ | ⟨b, off, e, hc⟩
    · exact .inl ⟨by omega, fun _ => by omega⟩
    · rcases h.head with ⟨rfl, _⟩ | ⟨d, hd⟩
      · cases e
      · rw [hd] at e
        simp only [Option.some.injEq, Addr.mk.injEq, and_true] at e
        obtain ⟨rfl, rfl⟩ := e
        refine .inr ⟨d, k, by simp [cutAt, hkn, hd], fun j hj => ?_⟩
        have := hc (k + j) (by simp at hj; omega)
        simp only [Nat.zero_add] at this
        rw [this, List.getElem_drop, List.getElem_take]

/-! ### zzBytes -/
def Bts (e : Ending) (n m : Nat) (ss ls qs : List ByteArray) : Prop :=
  ∃ b : Bool, e = .returned (.bool b) ∧ (b = true → n ≤ 1048576 ∧ m ≤ 1048576 ∧ (∀ s ∈ ss, s.size ≤ 1048576) ∧ (∀ s ∈ ls, s.size ≤ 1048576) ∧ ∀ s ∈ qs, s.size ≤ 1048576)
theorem Bts.no {n m : Nat} {ss ls qs : List ByteArray} : Bts (.returned (.bool false)) n m ss ls qs := ⟨false, rfl, fun h => by cases h⟩

/-- The first k strings are short. -/
def Short (ss : List ByteArray) (k : Nat) : Prop := ∀ j (hj : j < ss.length), j < k → ss[j].size ≤ 1048576
theorem Short.step {ss : List ByteArray} {k : Nat} (h : Short ss k) (hk : k < ss.length) (hc : ss[k].size ≤ 1048576) : Short ss (k + 1) := by
  intro j hj hjk
  rcases Nat.lt_or_ge j k with hlt | hge
  · exact h j hj hlt
  · obtain rfl : j = k := by omega
    exact hc
theorem Short.all {ss : List ByteArray} {k : Nat} (h : Short ss k) (hk : ss.length ≤ k) : ∀ s ∈ ss, s.size ≤ 1048576 := by
  intro s hs
  obtain ⟨j, hj, rfl⟩ := List.getElem_of_mem hs
  exact h j hj (by omega)

theorem bytes17 (so lo : Option Addr) (n c m d : Nat) (ss ls : List ByteArray) (at0 : Int) (qs ql : ByteArray) (w : World) (hs : Strs w so n c ss) (hl : Strs w lo m d ls) :
    Calls Try.prog 17 #[.slice so n c, .slice lo m d, .int .i64 at0, .string qs, .string ql] w fun e w' => Bts e n m ss ls [qs, ql] ∧ w' = w := by
  by_cases hn : n ≤ 1048576
  · have hn' : (n : Int) ≤ 1048576 := by omega
    go_enter Try.func17, Try.ntmps17
    go_wp2
    go_loop [11, 12] (fun t i => ∃ (k : Nat) (r : Int), k ≤ n ∧ i = .int .i64 k ∧ t = .int .i64 r ∧ 0 ≤ r ∧ r ≤ 1048576 ∧ Short ss k) (fun _ i => n - (intOf i).toNat)
    case atStart => exact ⟨0, n, Nat.zero_le _, rfl, rfl, by omega, by omega, fun j _ h => by omega⟩
    case round =>
      obtain ⟨k, r, hk, rfl, rfl, hr0, hr1, hsh⟩ := hrel
      have HS : Hid (Short ss k) := hsh
      clear hsh
      by_cases hlt : k < n
      · have i0 : (k : Int) < (n : Int) := by omega
        obtain ⟨b, off, e, hb, hc⟩ := hs.at (by omega)
        have hkl : k < ss.length := by rw [hs.1]; exact hlt
        have c1 := hc k hkl
        obtain ⟨s, hsk⟩ : ∃ s, ss[k] = s := ⟨_, rfl⟩
        rw [hsk] at c1
        have Hsk : Hid (ss[k] = s) := hsk
        clear hc hsk hl hs
        subst e
        by_cases t1 : (s.size : Int) ≤ 1048576
        · by_cases t2 : r + (s.size : Int) ≤ 1048576
          · go_wp2
            exact ⟨⟨k + 1, r + s.size, by omega, by go_num, rfl, by omega, by omega, HS.out.step hkl (by rw [Hsk.out]; omega)⟩, by simp [intOf]; omega⟩
          · have t2' : 1048576 < r + (s.size : Int) := by omega
            go_wp2
            go_ret
            exact ⟨Bts.no, rfl⟩
        · have t1' : 1048576 < (s.size : Int) := by omega
          go_wp2
          go_ret
          exact ⟨Bts.no, rfl⟩
      · obtain rfl : k = n := by omega
        by_cases hm : m ≤ 1048576
        · have hm' : (m : Int) ≤ 1048576 := by omega
          by_cases t0 : r + (m : Int) ≤ 1048576
          · go_wp2
            go_loop [11, 13] (fun t i => ∃ (j : Nat) (r : Int), j ≤ m ∧ i = .int .i64 j ∧ t = .int .i64 r ∧ 0 ≤ r ∧ r ≤ 1048576 ∧ Short ls j) (fun _ i => m - (intOf i).toNat)
            case atStart => exact ⟨0, _, Nat.zero_le _, rfl, rfl, by omega, by omega, fun j _ h => by omega⟩
            case round =>
              clear hr0 hr1 t0
              obtain ⟨j, r2, hj, rfl, rfl, hr0, hr1, hsh⟩ := hrel
              have HL : Hid (Short ls j) := hsh
              clear hsh
              by_cases hlt2 : j < m
              · have i0 : (j : Int) < (m : Int) := by omega
                obtain ⟨b, off, e, hb, hc⟩ := hl.at (by omega)
                have hkl : j < ls.length := by rw [hl.1]; exact hlt2
                have c1 := hc j hkl
                obtain ⟨s, hsk⟩ : ∃ s, ls[j] = s := ⟨_, rfl⟩
                rw [hsk] at c1
                have Hsk : Hid (ls[j] = s) := hsk
                clear hc hsk hl hs
                subst e
                by_cases t1 : (s.size : Int) ≤ 1048576
                · by_cases t2 : r2 + (s.size : Int) ≤ 1048576
                  · go_wp2
                    exact ⟨⟨j + 1, r2 + s.size, by omega, by go_num, rfl, by omega, by omega, HL.out.step hkl (by rw [Hsk.out]; omega)⟩, by simp [intOf]; omega⟩
                  · have t2' : 1048576 < r2 + (s.size : Int) := by omega
                    go_wp2
                    go_ret
                    exact ⟨Bts.no, rfl⟩
                · have t1' : 1048576 < (s.size : Int) := by omega
                  go_wp2
                  go_ret
                  exact ⟨Bts.no, rfl⟩
              · obtain rfl : j = m := by omega
                have hls := HS.out.all (by rw [hs.1]; omega)
                have hll := HL.out.all (by rw [hl.1]; omega)
                have H1 : Hid (∀ s ∈ ss, s.size ≤ 1048576) := hls
                have H2 : Hid (∀ s ∈ ls, s.size ≤ 1048576) := hll
                clear hls hll HS HL hs hl
                go_wp2
                all_goals first
                  | (go_ret; exact ⟨Bts.no, rfl⟩)
                  | (go_ret; exact ⟨⟨true, rfl, fun _ => ⟨hn, hm, H1.out, H2.out, fun s h => by simp only [List.mem_cons, List.not_mem_nil, or_false] at h; rcases h with rfl | rfl <;> omega⟩⟩, rfl⟩)
          · have t0' : 1048576 < r + (m : Int) := by omega
            go_wp2
            go_ret
            exact ⟨Bts.no, rfl⟩
        · have hm' : (1048576 : Int) < (m : Int) := by omega
          go_wp2
          go_ret
          exact ⟨Bts.no, rfl⟩
  · have hn' : (1048576 : Int) < (n : Int) := by omega
    go_enter Try.func17, Try.ntmps17
    go_wp2
    go_ret
    exact ⟨Bts.no, rfl⟩

theorem bytes9 (so lo : Option Addr) (n c m d : Nat) (ss ls : List ByteArray) (at0 : Int) (xs xl qs ql : ByteArray) (w : World) (hs : Strs w so n c ss) (hl : Strs w lo m d ls) :
    Calls Try.prog 9 #[.slice so n c, .slice lo m d, .int .i64 at0, .string xs, .string xl, .string qs, .string ql] w fun e w' => Bts e n m ss ls [xs, xl, qs, ql] ∧ w' = w := by
  by_cases hn : n ≤ 1048576
  · have hn' : (n : Int) ≤ 1048576 := by omega
    go_enter Try.func9, Try.ntmps9
    go_wp2
    go_loop [15, 16] (fun t i => ∃ (k : Nat) (r : Int), k ≤ n ∧ i = .int .i64 k ∧ t = .int .i64 r ∧ 0 ≤ r ∧ r ≤ 1048576 ∧ Short ss k) (fun _ i => n - (intOf i).toNat)
    case atStart => exact ⟨0, n, Nat.zero_le _, rfl, rfl, by omega, by omega, fun j _ h => by omega⟩
    case round =>
      obtain ⟨k, r, hk, rfl, rfl, hr0, hr1, hsh⟩ := hrel
      have HS : Hid (Short ss k) := hsh
      clear hsh
      by_cases hlt : k < n
      · have i0 : (k : Int) < (n : Int) := by omega
        obtain ⟨b, off, e, hb, hc⟩ := hs.at (by omega)
        have hkl : k < ss.length := by rw [hs.1]; exact hlt
        have c1 := hc k hkl
        obtain ⟨s, hsk⟩ : ∃ s, ss[k] = s := ⟨_, rfl⟩
        rw [hsk] at c1
        have Hsk : Hid (ss[k] = s) := hsk
        clear hc hsk hl hs
        subst e
        by_cases t1 : (s.size : Int) ≤ 1048576
        · by_cases t2 : r + (s.size : Int) ≤ 1048576
          · go_wp2
            exact ⟨⟨k + 1, r + s.size, by omega, by go_num, rfl, by omega, by omega, HS.out.step hkl (by rw [Hsk.out]; omega)⟩, by simp [intOf]; omega⟩
          · have t2' : 1048576 < r + (s.size : Int) := by omega
            go_wp2
            go_ret
            exact ⟨Bts.no, rfl⟩
        · have t1' : 1048576 < (s.size : Int) := by omega
          go_wp2
          go_ret
          exact ⟨Bts.no, rfl⟩
      · obtain rfl : k = n := by omega
        by_cases hm : m ≤ 1048576
        · have hm' : (m : Int) ≤ 1048576 := by omega
          by_cases t0 : r + (m : Int) ≤ 1048576
          · go_wp2
            go_loop [15, 17] (fun t i => ∃ (j : Nat) (r : Int), j ≤ m ∧ i = .int .i64 j ∧ t = .int .i64 r ∧ 0 ≤ r ∧ r ≤ 1048576 ∧ Short ls j) (fun _ i => m - (intOf i).toNat)
            case atStart => exact ⟨0, _, Nat.zero_le _, rfl, rfl, by omega, by omega, fun j _ h => by omega⟩
            case round =>
              clear hr0 hr1 t0
              obtain ⟨j, r2, hj, rfl, rfl, hr0, hr1, hsh⟩ := hrel
              have HL : Hid (Short ls j) := hsh
              clear hsh
              by_cases hlt2 : j < m
              · have i0 : (j : Int) < (m : Int) := by omega
                obtain ⟨b, off, e, hb, hc⟩ := hl.at (by omega)
                have hkl : j < ls.length := by rw [hl.1]; exact hlt2
                have c1 := hc j hkl
                obtain ⟨s, hsk⟩ : ∃ s, ls[j] = s := ⟨_, rfl⟩
                rw [hsk] at c1
                have Hsk : Hid (ls[j] = s) := hsk
                clear hc hsk hl hs
                subst e
                by_cases t1 : (s.size : Int) ≤ 1048576
                · by_cases t2 : r2 + (s.size : Int) ≤ 1048576
                  · go_wp2
                    exact ⟨⟨j + 1, r2 + s.size, by omega, by go_num, rfl, by omega, by omega, HL.out.step hkl (by rw [Hsk.out]; omega)⟩, by simp [intOf]; omega⟩
                  · have t2' : 1048576 < r2 + (s.size : Int) := by omega
                    go_wp2
                    go_ret
                    exact ⟨Bts.no, rfl⟩
                · have t1' : 1048576 < (s.size : Int) := by omega
                  go_wp2
                  go_ret
                  exact ⟨Bts.no, rfl⟩
              · obtain rfl : j = m := by omega
                have hls := HS.out.all (by rw [hs.1]; omega)
                have hll := HL.out.all (by rw [hl.1]; omega)
                have H1 : Hid (∀ s ∈ ss, s.size ≤ 1048576) := hls
                have H2 : Hid (∀ s ∈ ls, s.size ≤ 1048576) := hll
                clear hls hll HS HL hs hl
                go_wp2
                all_goals first
                  | (go_ret; exact ⟨Bts.no, rfl⟩)
                  | (go_ret; exact ⟨⟨true, rfl, fun _ => ⟨hn, hm, H1.out, H2.out, fun s h => by simp only [List.mem_cons, List.not_mem_nil, or_false] at h; rcases h with rfl | rfl | rfl | rfl <;> omega⟩⟩, rfl⟩)
          · have t0' : 1048576 < r + (m : Int) := by omega
            go_wp2
            go_ret
            exact ⟨Bts.no, rfl⟩
        · have hm' : (1048576 : Int) < (m : Int) := by omega
          go_wp2
          go_ret
          exact ⟨Bts.no, rfl⟩
  · have hn' : (1048576 : Int) < (n : Int) := by omega
    go_enter Try.func9, Try.ntmps9
    go_wp2
    go_ret
    exact ⟨Bts.no, rfl⟩

end Go.Proofs.Qxb6608526a.Attr
