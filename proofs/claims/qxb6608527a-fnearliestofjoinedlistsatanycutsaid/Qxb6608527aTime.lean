import Derived.Test.Qxb6608527aRows
import Derived.WalkKit
import Derived.WalkSpells
import Derived.Laws.Bits64b
import Derived.Deep.RegionHeld3
import Derived.Below
import Derived.Outline
namespace Go.Proofs.Qxb6608527a.Tm
open Go.RowKit
set_option linter.unusedVariables false

theorem and_mono (n : Int) (h0 : 0 ≤ n) (h1 : n < 1073741824) : bits .and .u64 n 9223372036854775808 = 0 := by
  obtain ⟨a, rfl⟩ := Int.eq_ofNat_of_zero_le h0
  have e := bits_and_u64_nat a 9223372036854775808 (by omega) (by omega)
  have e2 : a &&& 9223372036854775808 = 0 := by
    apply Nat.eq_of_testBit_eq
    intro i
    rw [Nat.testBit_and, show (9223372036854775808 : Nat) = 2 ^ 63 from rfl, Nat.testBit_two_pow]
    by_cases hi : 63 = i
    · subst hi
      have : a.testBit 63 = false := Nat.testBit_lt_two_pow (by omega)
      simp [this]
    · simp [hi]
  rw [e2] at e
  exact e

theorem and_nsec (n : Int) (h0 : 0 ≤ n) (h1 : n < 1073741824) : bits .and .u64 n 1073741823 = n := by
  obtain ⟨a, rfl⟩ := Int.eq_ofNat_of_zero_le h0
  have e := bits_and_u64_nat a 1073741823 (by omega) (by omega)
  have e2 : a &&& 1073741823 = a := by
    rw [show (1073741823 : Nat) = 2 ^ 30 - 1 from rfl, Nat.and_two_pow_sub_one_eq_mod]
    exact Nat.mod_eq_of_lt (by omega)
  rw [e2] at e
  exact e

theorem or_zero (n : Int) (h0 : 0 ≤ n) (h1 : n < 1073741824) : bits .or .u64 0 n = n := by
  obtain ⟨a, rfl⟩ := Int.eq_ofNat_of_zero_le h0
  have e := bits_or_u64_nat 0 a (by omega) (by omega)
  rw [Nat.zero_or] at e
  exact e

theorem bcell {W w1 : World} (hb : Below W.heap.size W w1) : ∀ b o, b < W.heap.size → w1.cell? ⟨b, o, none⟩ = W.cell? ⟨b, o, none⟩ :=
  fun b o h => hb.cell (p := ⟨b, o, none⟩) h

theorem nsec22 (B : Nat) (n : Int) (w : World) (h0 : w.cell? ⟨B, 0, none⟩ = some (.int .u64 n)) (hn0 : 0 ≤ n) (hn1 : n < 1000000000) :
    Calls Try.prog 22 #[.pointer (some ⟨B, 0, none⟩)] w fun e w' => e = .returned (.int .i32 n) ∧ w' = w := by
  have b1 := and_nsec n hn0 (by omega)
  go_enter Try.func22, Try.ntmps22
  go_wp2
  go_ret
  exact ⟨rfl, rfl⟩

theorem sec26 (B : Nat) (n s : Int) (w : World) (h0 : w.cell? ⟨B, 0, none⟩ = some (.int .u64 n)) (h1 : w.cell? ⟨B, 1, none⟩ = some (.int .i64 s)) (hn0 : 0 ≤ n) (hn1 : n < 1000000000) :
    Calls Try.prog 26 #[.pointer (some ⟨B, 0, none⟩)] w fun e w' => e = .returned (.int .i64 s) ∧ w' = w := by
  have b1 := and_mono n hn0 (by omega)
  go_enter Try.func26, Try.ntmps26
  go_wp2
  go_ret
  exact ⟨rfl, rfl⟩

theorem addSec23 (B : Nat) (n d : Int) (w : World) (h0 : w.cell? ⟨B, 0, none⟩ = some (.int .u64 n)) (h1 : w.cell? ⟨B, 1, none⟩ = some (.int .i64 0)) (f1 : w.frozen? ⟨B, 1, none⟩ = false) (hn0 : 0 ≤ n) (hn1 : n < 1000000000) (hd0 : -10000000000 ≤ d) (hd1 : d ≤ 10000000000) :
    Calls Try.prog 23 #[.pointer (some ⟨B, 0, none⟩), .int .i64 d] w fun e w' => e = .returned (.tuple #[]) ∧ w' = w.setCell ⟨B, 1, none⟩ (.int .i64 d) := by
  have b1 := and_mono n hn0 (by omega)
  go_enter Try.func23, Try.ntmps23
  go_wp2
  go_end0
  exact ⟨rfl, rfl⟩

theorem andNot0 : bits .andNot .u64 0 1073741823 = 0 := by decide

theorem add16_up (d q r : Int) (w : World) (e1 : d.tdiv 1000000000 = q) (e2 : d.tmod 1000000000 = r) (hr0 : 0 ≤ r) (hr1 : r < 1000000000) (hq0 : -9223372037 ≤ q) (hq1 : q ≤ 9223372036) (hd0 : -9223372036854775808 ≤ d) (hd1 : d ≤ 9223372036854775807) :
    Calls Try.prog 16 #[.agg #[.int .u64 0, .int .i64 0, .pointer none], .int .i64 d] w fun e w' => e = .returned (.agg #[.int .u64 r, .int .i64 q, .pointer none]) ∧ Below w.heap.size w w' := by
  have b0 := andNot0
  have b1 := or_zero r hr0 (by omega)
  have b2 := and_mono r hr0 (by omega)
  go_enter Try.func16, Try.ntmps16
  go_wp2_with (first
    | (go_at_call 22; refine (nsec22 _ 0 _ (by go_simp) (by omega) (by omega)).mono ?_; rintro e w1 ⟨rfl, rfl⟩)
    | (go_at_call 23; refine (addSec23 _ r q _ (by go_simp) (by go_simp) (by go_simp) hr0 hr1 (by omega) (by omega)).mono ?_; rintro e w1 ⟨rfl, rfl⟩))
  exact bodyPost_ret (v := .agg #[.int .u64 r, .int .i64 q, .pointer none]) (by simp [results, Try.results16, go_sem]) rfl ⟨rfl, ((Below.refl _ _).alloc (Nat.le_refl _) _).alloc (by simp) _⟩

theorem add16_down (d q r : Int) (w : World) (e1 : d.tdiv 1000000000 = q) (e2 : d.tmod 1000000000 = r) (hr0 : r < 0) (hr1 : -1000000000 < r) (hq0 : -9223372036 ≤ q) (hq1 : q ≤ 9223372036) (hd0 : -9223372036854775808 ≤ d) (hd1 : d ≤ 9223372036854775807) :
    Calls Try.prog 16 #[.agg #[.int .u64 0, .int .i64 0, .pointer none], .int .i64 d] w fun e w' => e = .returned (.agg #[.int .u64 (r + 1000000000), .int .i64 (q - 1), .pointer none]) ∧ Below w.heap.size w w' := by
  have b0 := andNot0
  have b1 := or_zero (r + 1000000000) (by omega) (by omega)
  have b2 := and_mono (r + 1000000000) (by omega) (by omega)
  go_enter Try.func16, Try.ntmps16
  go_wp2_with (first
    | (go_at_call 22; refine (nsec22 _ 0 _ (by go_simp) (by omega) (by omega)).mono ?_; rintro e w1 ⟨rfl, rfl⟩)
    | (go_at_call 23; refine (addSec23 _ (r + 1000000000) (q - 1) _ (by go_simp) (by go_simp) (by go_simp) (by omega) (by omega) (by omega) (by omega)).mono ?_; rintro e w1 ⟨rfl, rfl⟩))
  exact bodyPost_ret (v := .agg #[.int .u64 (r + 1000000000), .int .i64 (q - 1), .pointer none]) (by simp [results, Try.results16, go_sem]) rfl ⟨rfl, ((Below.refl _ _).alloc (Nat.le_refl _) _).alloc (by simp) _⟩

/-- The zero time plus d: d's seconds and nanoseconds (the floor). -/
theorem add16 (d : Int) (w : World) (hd0 : -9223372036854775808 ≤ d) (hd1 : d ≤ 9223372036854775807) :
    Calls Try.prog 16 #[.agg #[.int .u64 0, .int .i64 0, .pointer none], .int .i64 d] w fun e w' => e = .returned (.agg #[.int .u64 (d % 1000000000), .int .i64 (d / 1000000000), .pointer none]) ∧ Below w.heap.size w w' := by
  have hdm := Int.mul_tdiv_add_tmod d 1000000000
  have hlt := Int.tmod_lt_of_pos d (show (0 : Int) < 1000000000 by decide)
  rcases Int.lt_or_le d 0 with hneg | hpos
  · have hm : -1000000000 < d.tmod 1000000000 := by
      have h1 := Int.tmod_lt_of_pos (-d) (show (0 : Int) < 1000000000 by decide)
      rw [Int.neg_tmod] at h1
      omega
    have hle : d.tmod 1000000000 ≤ 0 := by
      have h1 := Int.tmod_nonneg (b := 1000000000) (a := -d) (by omega)
      rw [Int.neg_tmod] at h1
      omega
    rcases Int.lt_or_le (d.tmod 1000000000) 0 with hr | hr
    · refine (add16_down d _ _ w rfl rfl hr hm (by omega) (by omega) hd0 hd1).mono ?_
      rintro e w' ⟨rfl, hb⟩
      have e1 : d.tmod 1000000000 + 1000000000 = d % 1000000000 := by omega
      have e2 : d.tdiv 1000000000 - 1 = d / 1000000000 := by omega
      rw [e1, e2]
      exact ⟨rfl, hb⟩
    · refine (add16_up d _ _ w rfl rfl hr hlt (by omega) (by omega) hd0 hd1).mono ?_
      rintro e w' ⟨rfl, hb⟩
      have e1 : d.tmod 1000000000 = d % 1000000000 := by omega
      have e2 : d.tdiv 1000000000 = d / 1000000000 := by omega
      rw [e1, e2]
      exact ⟨rfl, hb⟩
  · have hm := Int.tmod_nonneg (b := 1000000000) hpos
    refine (add16_up d _ _ w rfl rfl hm hlt (by omega) (by omega) hd0 hd1).mono ?_
    rintro e w' ⟨rfl, hb⟩
    have e1 : d.tmod 1000000000 = d % 1000000000 := by omega
    have e2 : d.tdiv 1000000000 = d / 1000000000 := by omega
    rw [e1, e2]
    exact ⟨rfl, hb⟩

theorem ret_bool {a b : Bool} (h : a = b) : Ending.returned (.bool a) = .returned (.bool b) := by rw [h]
theorem ret_int {k : IntKind} {a b : Int} (h : a = b) : Ending.returned (.int k a) = .returned (.int k b) := by rw [h]

theorem isZero19 (n s : Int) (w : World) :
    Calls Try.prog 19 #[.agg #[.int .u64 n, .int .i64 s, .pointer none]] w fun e w' => e = .returned (.bool (decide (n = 0 ∧ s = 0))) ∧ w' = w.alloc (.cells #[.int .u64 n, .int .i64 s, .pointer none] 38) := by
  by_cases h1 : n = 0
  · have h1' : (n == 0) = true := by simp [h1]
    have E : Hid (decide (n = 0 ∧ s = 0) = (s == 0)) := by simp [h1, Hid]; rfl
    clear h1
    go_enter Try.func19, Try.ntmps19
    go_wp2
    go_ret
    exact ⟨ret_bool E.out.symm, rfl⟩
  · have h1' : (n == 0) = false := by simp [h1]
    have E : Hid (decide (n = 0 ∧ s = 0) = false) := by simp [h1, Hid]
    clear h1
    go_enter Try.func19, Try.ntmps19
    go_wp2
    go_ret
    exact ⟨ret_bool E.out.symm, rfl⟩

theorem and_mono2 (a b : Int) (ha0 : 0 ≤ a) (ha1 : a < 1000000000) (hb0 : 0 ≤ b) (hb1 : b < 1000000000) : bits .and .u64 (bits .and .u64 a b) 9223372036854775808 = 0 := by
  obtain ⟨x, rfl⟩ := Int.eq_ofNat_of_zero_le ha0
  obtain ⟨y, rfl⟩ := Int.eq_ofNat_of_zero_le hb0
  rw [bits_and_u64_nat x y (by omega) (by omega)]
  have : x &&& y ≤ x := Nat.and_le_left
  exact and_mono _ (by omega) (by omega)

theorem before20 (n1 s1 n2 s2 : Int) (w : World) (h10 : 0 ≤ n1) (h11 : n1 < 1000000000) (h20 : 0 ≤ n2) (h21 : n2 < 1000000000) :
    Calls Try.prog 20 #[.agg #[.int .u64 n1, .int .i64 s1, .pointer none], .agg #[.int .u64 n2, .int .i64 s2, .pointer none]] w fun e w' =>
      e = .returned (.bool (decide (s1 < s2 ∨ s1 = s2 ∧ n1 < n2))) ∧ w' = (w.alloc (.cells #[.int .u64 n1, .int .i64 s1, .pointer none] 38)).alloc (.cells #[.int .u64 n2, .int .i64 s2, .pointer none] 38) := by
  have bA := and_mono2 n1 n2 h10 h11 h20 h21
  have E : ∃ b : Bool, b = decide (s1 < s2 ∨ s1 = s2 ∧ n1 < n2) := ⟨_, rfl⟩
  obtain ⟨b, E⟩ := E
  have HE : Hid (b = decide (s1 < s2 ∨ s1 = s2 ∧ n1 < n2)) := E
  rw [← E]
  clear E
  go_enter Try.func20, Try.ntmps20
  go_wp2_with fail
  refine (sec26 w.heap.size n1 s1 _ (by go_simp) (by go_simp) h10 h11).mono ?_
  rintro e w1 ⟨rfl, rfl⟩
  go_wp2_with fail
  refine (sec26 (w.heap.size + 1) n2 s2 _ (by go_simp) (by go_simp) h20 h21).mono ?_
  rintro e w1 ⟨rfl, rfl⟩
  rcases Int.lt_trichotomy s1 s2 with hlt | heq | hgt
  · have hb : Hid (b = true) := by rw [HE.out]; simp [hlt, Hid]
    go_wp2_with fail
    go_ret
    exact ⟨ret_bool hb.out.symm, rfl⟩
  · subst heq
    have hb : Hid (b = decide (n1 < n2)) := by rw [HE.out]; simp [Hid]
    go_wp2_with fail
    refine (nsec22 w.heap.size n1 _ (by go_simp) h10 h11).mono ?_
    rintro e w1 ⟨rfl, rfl⟩
    go_wp2_with fail
    refine (nsec22 (w.heap.size + 1) n2 _ (by go_simp) h20 h21).mono ?_
    rintro e w1 ⟨rfl, rfl⟩
    go_wp2_with fail
    go_ret
    exact ⟨ret_bool hb.out.symm, rfl⟩
  · have hb : Hid (b = false) := by
      rw [HE.out]
      have h1 : ¬ s1 < s2 := by omega
      have h2 : ¬ s1 = s2 := by omega
      simp [h1, h2, Hid]
    have h1 : ¬ s1 < s2 := by omega
    have h2 : (s1 == s2) = false := by simp; omega
    go_wp2_with fail
    go_ret
    exact ⟨ret_bool (by rw [hb.out]; simp; omega), rfl⟩

/-- Equal of two times that are the same. -/
theorem equal27 (n s : Int) (w : World) (h0 : 0 ≤ n) (h1 : n < 1000000000) :
    Calls Try.prog 27 #[.agg #[.int .u64 n, .int .i64 s, .pointer none], .agg #[.int .u64 n, .int .i64 s, .pointer none]] w fun e w' => e = .returned (.bool true) ∧ Below w.heap.size w w' := by
  have bA := and_mono2 n n h0 h1 h0 h1
  go_enter Try.func27, Try.ntmps27
  go_wp2_with fail
  refine (sec26 w.heap.size n s _ (by go_simp) (by go_simp) h0 h1).mono ?_
  rintro e w1 ⟨rfl, rfl⟩
  go_wp2_with fail
  refine (sec26 (w.heap.size + 1) n s _ (by go_simp) (by go_simp) h0 h1).mono ?_
  rintro e w1 ⟨rfl, rfl⟩
  go_wp2_with fail
  refine (nsec22 w.heap.size n _ (by go_simp) h0 h1).mono ?_
  rintro e w1 ⟨rfl, rfl⟩
  go_wp2_with fail
  refine (nsec22 (w.heap.size + 1) n _ (by go_simp) h0 h1).mono ?_
  rintro e w1 ⟨rfl, rfl⟩
  go_wp2_with fail
  go_ret
  exact ⟨rfl, ((Below.refl _ _).alloc (Nat.le_refl _) _).alloc (by simp) _⟩

theorem wrap_sum (d s n : Int) (hd : d = s * 1000000000 + n) (hd0 : -9223372036854775808 ≤ d) (hd1 : d ≤ 9223372036854775807) : wrap64 (wrap64 (s * 1000000000) + n) = d := by
  unfold wrap64
  omega

theorem add16_at (d s n : Int) (w : World) (hd : s = d / 1000000000) (hn : n = d % 1000000000) (hd0 : -9223372036854775808 ≤ d) (hd1 : d ≤ 9223372036854775807) :
    Calls Try.prog 16 #[.agg #[.int .u64 0, .int .i64 0, .pointer none], .int .i64 d] w fun e w' => e = .returned (.agg #[.int .u64 n, .int .i64 s, .pointer none]) ∧ Below w.heap.size w w' := by
  rw [hd, hn]
  exact add16 d w hd0 hd1

theorem kept6 {w w4 : World} (n s n2 s2 : Int) (hb : Below ((w.alloc (.cells #[.int .u64 n, .int .i64 s, .pointer none] 38)).alloc (.cells #[.int .u64 n2, .int .i64 s2, .pointer none] 38)).drew.heap.size ((w.alloc (.cells #[.int .u64 n, .int .i64 s, .pointer none] 38)).alloc (.cells #[.int .u64 n2, .int .i64 s2, .pointer none] 38)).drew w4) :
    ((w4.cell? ⟨w.heap.size, 0, none⟩ = some (.int .u64 n) ∧ w4.cell? ⟨w.heap.size, 1, none⟩ = some (.int .i64 s) ∧ w4.cell? ⟨w.heap.size, 2, none⟩ = some (.pointer none)) ∧ w4.cell? ⟨w.heap.size + 1, 0, none⟩ = some (.int .u64 n2) ∧ w4.cell? ⟨w.heap.size + 1, 1, none⟩ = some (.int .i64 s2) ∧ w4.cell? ⟨w.heap.size + 1, 2, none⟩ = some (.pointer none)) ∧ w.heap.size + 2 ≤ w4.heap.size := by
  have hz := hb.size
  simp at hz
  refine ⟨⟨⟨?_, ?_, ?_⟩, ?_, ?_, ?_⟩, by omega⟩
  · rw [hb.cell (p := ⟨w.heap.size, 0, none⟩) (by simp; omega)]; go_simp
  · rw [hb.cell (p := ⟨w.heap.size, 1, none⟩) (by simp; omega)]; go_simp
  · rw [hb.cell (p := ⟨w.heap.size, 2, none⟩) (by simp; omega)]; go_simp
  · rw [hb.cell (p := ⟨w.heap.size + 1, 0, none⟩) (by simp)]; go_simp
  · rw [hb.cell (p := ⟨w.heap.size + 1, 1, none⟩) (by simp)]; go_simp
  · rw [hb.cell (p := ⟨w.heap.size + 1, 2, none⟩) (by simp)]; go_simp

/-- The way from the zero time to d's time: d. -/
theorem sub17 (d s n : Int) (w : World) (hd : s = d / 1000000000) (hn : n = d % 1000000000) (hd0 : -9223372036854775808 ≤ d) (hd1 : d ≤ 9223372036854775807) :
    Calls Try.prog 17 #[.agg #[.int .u64 n, .int .i64 s, .pointer none], .agg #[.int .u64 0, .int .i64 0, .pointer none]] w fun e w' => e = .returned (.int .i64 d) ∧ Below w.heap.size w w' := by
  have h0 : 0 ≤ n := by omega
  have h1 : n < 1000000000 := by omega
  have bA := and_mono2 n 0 h0 h1 (by omega) (by omega)
  have hsum := wrap_sum d s n (by omega) hd0 hd1
  have hs0 : -9223372037 ≤ s := by omega
  have hs1 : s ≤ 9223372036 := by omega
  have Hd : Hid (s = d / 1000000000) := hd
  have Hn : Hid (n = d % 1000000000) := hn
  clear hd hn
  go_enter Try.func17, Try.ntmps17
  go_wp2_with fail
  refine (sec26 w.heap.size n s _ (by go_simp) (by go_simp) h0 h1).mono ?_
  rintro e w1 ⟨rfl, rfl⟩
  go_wp2_with fail
  refine (sec26 (w.heap.size + 1) 0 0 _ (by go_simp) (by go_simp) (by omega) (by omega)).mono ?_
  rintro e w1 ⟨rfl, rfl⟩
  go_wp2_with fail
  refine (nsec22 w.heap.size n _ (by go_simp) h0 h1).mono ?_
  rintro e w1 ⟨rfl, rfl⟩
  go_wp2_with fail
  refine (nsec22 (w.heap.size + 1) 0 _ (by go_simp) (by omega) (by omega)).mono ?_
  rintro e w1 ⟨rfl, rfl⟩
  go_wp2_with fail
  rw [hsum]
  go_region_held3 (fun w' => (w'.cell? ⟨w.heap.size, 0, none⟩ = some (.int .u64 n) ∧ w'.cell? ⟨w.heap.size, 1, none⟩ = some (.int .i64 s) ∧ w'.cell? ⟨w.heap.size, 2, none⟩ = some (.pointer none)) ∧ w'.cell? ⟨w.heap.size + 1, 0, none⟩ = some (.int .u64 0) ∧ w'.cell? ⟨w.heap.size + 1, 1, none⟩ = some (.int .i64 0) ∧ w'.cell? ⟨w.heap.size + 1, 2, none⟩ = some (.pointer none)) (go_keep)
    (first
      | (go_at_call 16; refine (add16_at d s n _ Hd.out Hn.out hd0 hd1).mono ?_; rintro e w4 ⟨rfl, hb4⟩; obtain ⟨⟨⟨k0, k1, k2⟩, k3, k4, k5⟩, kz⟩ := kept6 n s 0 0 hb4)
      | (go_at_call 27; refine (equal27 n s _ h0 h1).mono ?_; rintro e w5 ⟨rfl, hb5⟩; have m0 := (hb5.cell (p := ⟨w.heap.size, 0, none⟩) (show w.heap.size < w4.heap.size by omega)).trans k0; have m1 := (hb5.cell (p := ⟨w.heap.size, 1, none⟩) (show w.heap.size < w4.heap.size by omega)).trans k1; have m2 := (hb5.cell (p := ⟨w.heap.size, 2, none⟩) (show w.heap.size < w4.heap.size by omega)).trans k2; have m3 := (hb5.cell (p := ⟨w.heap.size + 1, 0, none⟩) (show w.heap.size + 1 < w4.heap.size by omega)).trans k3; have m4 := (hb5.cell (p := ⟨w.heap.size + 1, 1, none⟩) (show w.heap.size + 1 < w4.heap.size by omega)).trans k4; have m5 := (hb5.cell (p := ⟨w.heap.size + 1, 2, none⟩) (show w.heap.size + 1 < w4.heap.size by omega)).trans k5))
  go_wp2_with fail
  go_ret
  exact ⟨rfl, ((((Below.refl _ _).alloc (Nat.le_refl _) _).alloc (by simp) _).drew.trans (hb4.mono (by simp; omega))).trans (hb5.mono (by omega))⟩

/-! ### earliest -/
theorem earliest_z (nb sb : Int) (w : World) :
    Calls Try.prog 15 #[.agg #[.int .u64 0, .int .i64 0, .pointer none], .agg #[.int .u64 nb, .int .i64 sb, .pointer none]] w fun e w' => e = .returned (.agg #[.int .u64 nb, .int .i64 sb, .pointer none]) ∧ Below w.heap.size w w' := by
  go_enter Try.func15, Try.ntmps15
  go_wp2_with fail
  refine (isZero19 0 0 _).mono ?_
  rintro e w1 ⟨rfl, rfl⟩
  go_wp2_with fail
  exact bodyPost_ret (v := .agg #[.int .u64 nb, .int .i64 sb, .pointer none]) (by simp [results, Try.results15, go_sem]) rfl ⟨rfl, by repeat (first | exact Below.refl _ _ | refine Below.alloc ?_ (by simp <;> omega) _)⟩

theorem earliest_bz (na sa : Int) (w : World) (za : decide (na = 0 ∧ sa = 0) = false) :
    Calls Try.prog 15 #[.agg #[.int .u64 na, .int .i64 sa, .pointer none], .agg #[.int .u64 0, .int .i64 0, .pointer none]] w fun e w' => e = .returned (.agg #[.int .u64 na, .int .i64 sa, .pointer none]) ∧ Below w.heap.size w w' := by
  go_enter Try.func15, Try.ntmps15
  go_wp2_with fail
  refine (isZero19 na sa _).mono ?_
  rw [za]
  rintro e w1 ⟨rfl, rfl⟩
  go_wp2_with fail
  refine (isZero19 0 0 _).mono ?_
  rintro e w1 ⟨rfl, rfl⟩
  go_wp2_with fail
  exact bodyPost_ret (v := .agg #[.int .u64 na, .int .i64 sa, .pointer none]) (by simp [results, Try.results15, go_sem]) rfl ⟨rfl, by repeat (first | exact Below.refl _ _ | refine Below.alloc ?_ (by simp <;> omega) _)⟩

theorem earliest_lt (na sa nb sb : Int) (w : World) (za : decide (na = 0 ∧ sa = 0) = false) (zb : decide (nb = 0 ∧ sb = 0) = false) (ha0 : 0 ≤ na) (ha1 : na < 1000000000) (hb0 : 0 ≤ nb) (hb1 : nb < 1000000000)
    (hlt : decide (sb < sa ∨ sb = sa ∧ nb < na) = true) :
    Calls Try.prog 15 #[.agg #[.int .u64 na, .int .i64 sa, .pointer none], .agg #[.int .u64 nb, .int .i64 sb, .pointer none]] w fun e w' => e = .returned (.agg #[.int .u64 nb, .int .i64 sb, .pointer none]) ∧ Below w.heap.size w w' := by
  have Hlt : Hid (decide (sb < sa ∨ sb = sa ∧ nb < na) = true) := hlt
  have Za : Hid (decide (na = 0 ∧ sa = 0) = false) := za
  have Zb : Hid (decide (nb = 0 ∧ sb = 0) = false) := zb
  clear hlt za zb
  go_enter Try.func15, Try.ntmps15
  go_wp2_with fail
  refine (isZero19 na sa _).mono ?_
  rw [Za.out]
  rintro e w1 ⟨rfl, rfl⟩
  go_wp2_with fail
  refine (isZero19 nb sb _).mono ?_
  rw [Zb.out]
  rintro e w1 ⟨rfl, rfl⟩
  go_wp2_with fail
  refine (before20 nb sb na sa _ hb0 hb1 ha0 ha1).mono ?_
  rw [Hlt.out]
  rintro e w1 ⟨rfl, rfl⟩
  go_wp2_with fail
  exact bodyPost_ret (v := .agg #[.int .u64 nb, .int .i64 sb, .pointer none]) (by simp [results, Try.results15, go_sem]) rfl ⟨rfl, by repeat (first | exact Below.refl _ _ | refine Below.alloc ?_ (by simp <;> omega) _)⟩

theorem earliest_ge (na sa nb sb : Int) (w : World) (za : decide (na = 0 ∧ sa = 0) = false) (zb : decide (nb = 0 ∧ sb = 0) = false) (ha0 : 0 ≤ na) (ha1 : na < 1000000000) (hb0 : 0 ≤ nb) (hb1 : nb < 1000000000)
    (hlt : decide (sb < sa ∨ sb = sa ∧ nb < na) = false) :
    Calls Try.prog 15 #[.agg #[.int .u64 na, .int .i64 sa, .pointer none], .agg #[.int .u64 nb, .int .i64 sb, .pointer none]] w fun e w' => e = .returned (.agg #[.int .u64 na, .int .i64 sa, .pointer none]) ∧ Below w.heap.size w w' := by
  have Hlt : Hid (decide (sb < sa ∨ sb = sa ∧ nb < na) = false) := hlt
  have Za : Hid (decide (na = 0 ∧ sa = 0) = false) := za
  have Zb : Hid (decide (nb = 0 ∧ sb = 0) = false) := zb
  clear hlt za zb
  go_enter Try.func15, Try.ntmps15
  go_wp2_with fail
  refine (isZero19 na sa _).mono ?_
  rw [Za.out]
  rintro e w1 ⟨rfl, rfl⟩
  go_wp2_with fail
  refine (isZero19 nb sb _).mono ?_
  rw [Zb.out]
  rintro e w1 ⟨rfl, rfl⟩
  go_wp2_with fail
  refine (before20 nb sb na sa _ hb0 hb1 ha0 ha1).mono ?_
  rw [Hlt.out]
  rintro e w1 ⟨rfl, rfl⟩
  go_wp2_with fail
  exact bodyPost_ret (v := .agg #[.int .u64 na, .int .i64 sa, .pointer none]) (by simp [results, Try.results15, go_sem]) rfl ⟨rfl, by repeat (first | exact Below.refl _ _ | refine Below.alloc ?_ (by simp <;> omega) _)⟩

/-- What earliest comes to on instants told as nanoseconds. -/
def earl (a b : Int) : Int := if a = 0 then b else if b = 0 then a else if b < a then b else a

theorem earliest15 (a b : Int) (w : World) :
    Calls Try.prog 15 #[.agg #[.int .u64 (a % 1000000000), .int .i64 (a / 1000000000), .pointer none], .agg #[.int .u64 (b % 1000000000), .int .i64 (b / 1000000000), .pointer none]] w fun e w' =>
      e = .returned (.agg #[.int .u64 (earl a b % 1000000000), .int .i64 (earl a b / 1000000000), .pointer none]) ∧ Below w.heap.size w w' := by
  by_cases ha : a = 0
  · subst ha
    have e : earl 0 b = b := by simp [earl]
    rw [e]
    exact earliest_z _ _ w
  · have za : decide (a % 1000000000 = 0 ∧ a / 1000000000 = 0) = false := by simp; omega
    by_cases hb : b = 0
    · subst hb
      have e : earl a 0 = a := by simp [earl, ha]
      rw [e]
      exact earliest_bz _ _ w za
    · have zb : decide (b % 1000000000 = 0 ∧ b / 1000000000 = 0) = false := by simp; omega
      by_cases hlt : b < a
      · have e : earl a b = b := by simp [earl, ha, hb, hlt]
        rw [e]
        exact earliest_lt _ _ _ _ w za zb (by omega) (by omega) (by omega) (by omega) (by simp; omega)
      · have e : earl a b = a := by simp [earl, ha, hb, hlt]
        rw [e]
        exact earliest_ge _ _ _ _ w za zb (by omega) (by omega) (by omega) (by omega) (by simp; omega)

theorem earl_range (a b : Int) (ha0 : -9223372036854775808 ≤ a) (ha1 : a ≤ 9223372036854775807) (hb0 : -9223372036854775808 ≤ b) (hb1 : b ≤ 9223372036854775807) : -9223372036854775808 ≤ earl a b ∧ earl a b ≤ 9223372036854775807 := by
  unfold earl
  repeat' split
  all_goals omega

/-- ZZearliest: the earlier of two instants told as nanoseconds, 0 standing for none. -/
theorem zzearliest7 (a b : Int) (w : World) (ha0 : -9223372036854775808 ≤ a) (ha1 : a ≤ 9223372036854775807) (hb0 : -9223372036854775808 ≤ b) (hb1 : b ≤ 9223372036854775807) :
    Calls Try.prog 7 #[.int .i64 a, .int .i64 b] w fun e w' => e = .returned (.int .i64 (earl a b)) ∧ Below w.heap.size w w' := by
  obtain ⟨hr0, hr1⟩ := earl_range a b ha0 ha1 hb0 hb1
  go_enter Try.func7, Try.ntmps7
  go_wp2_with fail
  refine (add16 a _ ha0 ha1).mono ?_
  rintro e w1 ⟨rfl, h1⟩
  go_wp2_with fail
  refine (add16 b _ hb0 hb1).mono ?_
  rintro e w2 ⟨rfl, h2⟩
  go_wp2_with fail
  refine (earliest15 a b _).mono ?_
  rintro e w3 ⟨rfl, h3⟩
  go_wp2_with fail
  refine (sub17 (earl a b) _ _ _ rfl rfl hr0 hr1).mono ?_
  rintro e w4 ⟨rfl, h4⟩
  go_wp2_with fail
  go_ret
  exact ⟨rfl, ((h1.trans (h2.mono h1.size)).trans (h3.mono (Nat.le_trans h1.size h2.size))).trans (h4.mono (Nat.le_trans h1.size (Nat.le_trans h2.size h3.size)))⟩

end Go.Proofs.Qxb6608527a.Tm
