import Derived.Test.Qxb6613690aFmtNest
namespace Go.Proofs.Qxb6613690aFmt
open Go.RowKit Go.Extern.Stop Go.Stop Go.Extern
set_option linter.unusedVariables false

/-- A slice of int: its elements 'xs'; where there is one, it lies in a plain row of cells. -/
def Nums (w : World) (ao : Option Addr) (len : Nat) (xs : List Int) : Prop :=
  xs.length = len ∧ (len = 0 ∨ ∃ b off, ao = some ⟨b, off, none⟩ ∧ ∀ j (hj : j < xs.length), w.cell? ⟨b, off + j, none⟩ = some (.int .i64 xs[j]))

theorem Nums.at {w : World} {ao : Option Addr} {len : Nat} {xs : List Int} (h : Nums w ao len xs) (hlen : 0 < len) : ∃ b off, ao = some ⟨b, off, none⟩ ∧ b < w.heap.size ∧ ∀ j (hj : j < xs.length), w.cell? ⟨b, off + j, none⟩ = some (.int .i64 xs[j]) := by
  obtain ⟨b, off, e, hc⟩ := h.2.resolve_left (fun h => by omega)
  exact ⟨b, off, e, World.block_lt_of_cell? w ⟨b, off + 0, none⟩ (hc 0 (by have := h.1; omega)), hc⟩

set_option maxRecDepth 100000 in
set_option maxHeartbeats 1000000 in
theorem law_calls (F : Interp) (d : Int) (ao : Option Addr) (len cap : Nat) (xs : List Int) (w : World) (hF : F.answers w.tape) (hx : Nums w ao len xs) :
    Calls Tryf.prog 3 #[.int .i64 d, .slice ao len cap] w fun e w' => e = .returned (.bool true) ∧ Below w.heap.size w w' := by
  by_cases hs : len ≤ 1048576
  case neg =>
    have hd : decide (len ≤ 1048576) = false := by simp [hs]
    go_enter Tryf.func3, Tryf.ntmps3
    go_wp2_with (go_at_call 4; refine (bytes4 _ _ _ _ _).mono ?_; rintro e w ⟨rfl, rfl⟩)
    go_ret
    exact ⟨rfl, Below.refl _ _⟩
  have hd : decide (len ≤ 1048576) = true := by simp [hs]
  by_cases hs2 : len ≤ 65536
  case neg =>
    have hl : (65536 : Int) < (len : Int) := by omega
    go_enter Tryf.func3, Tryf.ntmps3
    go_wp2_with (go_at_call 4; refine (bytes4 _ _ _ _ _).mono ?_; rintro e w ⟨rfl, rfl⟩)
    go_ret
    exact ⟨rfl, Below.refl _ _⟩
  have hl : (len : Int) ≤ 65536 := by omega
  by_cases d0 : d < 0
  · go_enter Tryf.func3, Tryf.ntmps3
    go_wp2_with (go_at_call 4; refine (bytes4 _ _ _ _ _).mono ?_; rintro e w ⟨rfl, rfl⟩)
    go_ret
    exact ⟨rfl, Below.refl _ _⟩
  have d0' : 0 ≤ d := by omega
  clear d0
  by_cases d1 : 101 < d
  · go_enter Tryf.func3, Tryf.ntmps3
    go_wp2_with (go_at_call 4; refine (bytes4 _ _ _ _ _).mono ?_; rintro e w ⟨rfl, rfl⟩)
    go_ret
    exact ⟨rfl, Below.refl _ _⟩
  have d1' : d ≤ 101 := by omega
  clear d1
  have Hlen : Hid (xs.length = len) := hx.1
  have HF : Hid (F.answers w.tape) := hF
  clear hF
  go_enter Tryf.func3, Tryf.ntmps3
  go_wp2_with (go_at_call 4; refine (bytes4 _ _ _ _ _).mono ?_; rintro e w ⟨rfl, rfl⟩)
  go_loop [5] (fun i => ∃ k : Nat, k ≤ len ∧ i = .int .i64 k) (fun i => len - (intOf i).toNat)
  case atStart => exact ⟨0, Nat.zero_le _, rfl⟩
  case round =>
    obtain ⟨k, hk, rfl⟩ := hrel
    by_cases hlt : k < len
    · have i0 : (k : Int) < (len : Int) := by omega
      obtain ⟨b, off, e, hbw, hc⟩ := hx.at (by omega)
      have hkl : k < xs.length := by rw [Hlen.out]; exact hlt
      have c1 : w.cell? ⟨b, off + k, none⟩ = some (.int .i64 xs[k]) := hc k hkl
      generalize xs[k] = x at *
      clear hc hx
      subst e
      by_cases x0 : x < 0
      · go_wp2_with fail
        go_ret
        exact ⟨rfl, Below.refl _ _⟩
      have x0' : 0 ≤ x := by omega
      clear x0
      by_cases x1 : 2 < x
      · go_wp2_with fail
        go_ret
        exact ⟨rfl, Below.refl _ _⟩
      have x1' : x ≤ 2 := by omega
      clear x1
      go_wp2_with fail
      exact ⟨⟨k + 1, by omega, by go_num⟩, by simp [intOf]; omega⟩
    · obtain rfl : k = len := by omega
      go_wp2_with fail
      refine (new_calls d w).mono ?_
      rintro e w1 ⟨rfl, hb, hc1, hz1⟩
      obtain ⟨B, hBB⟩ : ∃ B, w.heap.size = B := ⟨_, rfl⟩
      have HB : Hid (w.heap.size = B) := hBB
      rw [hBB] at hb hc1 hz1 ⊢
      clear hBB
      by_cases hd100 : d < 100
      · go_wp2_with fail
        go_loopw [7] (fun i wr => ∃ j : Nat, j ≤ k ∧ i = .int .i64 j ∧ Below B w wr ∧ wr.cell? ⟨B, 2, none⟩ = some (.int .i64 d) ∧ wr.frozen? ⟨B, 2, none⟩ = false) (fun i _ => k - (intOf i).toNat)
        case atStart => exact ⟨0, Nat.zero_le _, rfl, hb, hc1, hz1⟩
        case round =>
          clear hb hc1 hz1
          obtain ⟨j, hj, rfl, hb, hc1, hz1⟩ := hrel
          by_cases hlt : j < k
          · have i0 : (j : Int) < (k : Int) := by omega
            obtain ⟨b, off, e, hbw, hc⟩ := hx.at (by omega)
            rw [HB.out] at hbw
            have hkl : j < xs.length := by rw [Hlen.out]; exact hlt
            have c1 : wr.cell? ⟨b, off + j, none⟩ = some (.int .i64 xs[j]) := (hb.cell (p := ⟨b, off + j, none⟩) hbw).trans (hc j hkl)
            have c0 : w.cell? ⟨b, off + j, none⟩ = some (.int .i64 xs[j]) := hc j hkl
            generalize xs[j] = x at *
            have Hc0 : Hid (w.cell? ⟨b, off + j, none⟩ = some (.int .i64 x)) := c0
            clear hc hx c0
            subst e
            go_wp2_with fail
            refine (zznested_ok B d x _ hc1 hz1 d0' (by omega)).mono ?_
            rintro e w2 ⟨rfl, hb2, hc2, hz2⟩
            have hb3 := hb.trans hb2
            clear hb hb2 c1 hc1 hz1
            have c2 : w2.cell? ⟨b, off + j, none⟩ = some (.int .i64 x) := (hb3.cell (p := ⟨b, off + j, none⟩) hbw).trans Hc0.out
            go_wp2_with (go_at_call 7; refine (depth_calls B d _ hc2).mono ?_; rintro e w2 ⟨rfl, rfl⟩)
            exact ⟨⟨j + 1, by omega, by go_num, hb3, hc2, hz2⟩, by simp [intOf]; omega⟩
          · obtain rfl : j = k := by omega
            go_wp2_with fail
            go_ret
            exact ⟨rfl, HB.out ▸ hb⟩
      · have hge : 100 ≤ d := by omega
        go_wp2_with fail
        go_loopw [7] (fun i wr => ∃ j : Nat, j ≤ k ∧ i = .int .i64 j ∧ Below B w wr ∧ wr.cell? ⟨B, 2, none⟩ = some (.int .i64 (d + j)) ∧ wr.frozen? ⟨B, 2, none⟩ = false) (fun i _ => k - (intOf i).toNat)
        case atStart => exact ⟨0, Nat.zero_le _, rfl, hb, by simpa using hc1, hz1⟩
        case round =>
          clear hb hc1 hz1
          obtain ⟨j, hj, rfl, hb, hc1, hz1⟩ := hrel
          by_cases hlt : j < k
          · have i0 : (j : Int) < (k : Int) := by omega
            obtain ⟨b, off, e, hbw, hc⟩ := hx.at (by omega)
            rw [HB.out] at hbw
            have hkl : j < xs.length := by rw [Hlen.out]; exact hlt
            have c1 : wr.cell? ⟨b, off + j, none⟩ = some (.int .i64 xs[j]) := (hb.cell (p := ⟨b, off + j, none⟩) hbw).trans (hc j hkl)
            generalize xs[j] = x at *
            clear hc hx
            subst e
            go_wp2_with fail
            refine (zznested_err F B (d + j) x _ (by rw [hb.tape]; exact HF.out) hc1 hz1 (by omega) (by omega)).mono ?_
            rintro e w2 ⟨rfl, hb2, hc2, hz2⟩
            have hb3 := hb.trans hb2
            clear hb hb2 c1 hc1 hz1
            go_wp2_with (go_at_call 7; refine (depth_calls B (d + j + 1) _ hc2).mono ?_; rintro e w2 ⟨rfl, rfl⟩)
            exact ⟨⟨j + 1, by omega, by go_num, hb3, by rw [hc2]; congr 2; push_cast; omega, hz2⟩, by simp [intOf]; omega⟩
          · obtain rfl : j = k := by omega
            go_wp2_with fail
            go_ret
            exact ⟨rfl, HB.out ▸ hb⟩

end Go.Proofs.Qxb6613690aFmt
