import Derived.Test.Qxb6608526aDoorCards
import Derived.WalkKit
import Derived.WalkSpells
import Derived.RegionTactic
import Derived.ChangeAlike
import Derived.Deep.QuietTactic
import Derived.BigQuiet
import Derived.Below
import Derived.Laws.AppendOwn
import Derived.Laws.AppendOwnNone
import Derived.OwnWalk
import Derived.Outline
namespace Go.Proofs.Qxb6608526aDoor.Spill
open Go.RowKit

/-! ### The callees' contracts: 'B': the block of the stack's box (four cells: spill, bottom, top, err) -/

theorem new30 (w : World) :
    Calls Tryd.prog 11 #[.nilIface] w fun e w' => e = .returned (.agg #[.nilIface, .int .i64 0, .slice none 0 0, .nilIface]) ∧ w' = w.alloc (.cells #[.nilIface, .int .i64 0, .slice none 0 0, .nilIface] 29) := by
  go_enter Tryd.func11, Tryd.ntmps11
  go_wp2
  exact bodyPost_ret (v := .agg #[.nilIface, .int .i64 0, .slice none 0 0, .nilIface]) (by simp [results, Tryd.results11, go_sem]) rfl ⟨rfl, rfl⟩

theorem new19 (w : World) :
    Calls Tryd.prog 5 #[] w fun e w' => e = .returned (.agg #[.nilIface, .int .i64 0, .slice none 0 0, .nilIface]) ∧ Below w.heap.size w w' := by
  go_enter Tryd.func5, Tryd.ntmps5
  go_wp2_with (go_at_call 11; refine (new30 _).mono ?_; rintro e w1 ⟨rfl, rfl⟩)
  exact bodyPost_ret (v := .agg #[.nilIface, .int .i64 0, .slice none 0 0, .nilIface]) (by simp [results, Tryd.results5, go_sem]) rfl ⟨rfl, ((Below.refl _ _).alloc (Nat.le_refl _) _).alloc (by simp) _⟩

theorem buffer (B : Nat) (v : Value) (w : World) (h2 : w.cell? ⟨B, 2, none⟩ = some v) :
    Calls Tryd.prog 7 #[.pointer (some ⟨B, 0, none⟩)] w fun e w' => e = .returned v ∧ w' = w := by
  go_enter Tryd.func7, Tryd.ntmps7
  go_wp2
  go_ret
  exact ⟨rfl, rfl⟩

theorem commit (B : Nat) (a : Option Addr) (n c : Nat) (w : World) (v : Value) (h0 : w.cell? ⟨B, 0, none⟩ = some .nilIface) (h2 : w.cell? ⟨B, 2, none⟩ = some v) (h3 : w.cell? ⟨B, 3, none⟩ = some .nilIface) (f2 : w.frozen? ⟨B, 2, none⟩ = false) :
    Calls Tryd.prog 6 #[.pointer (some ⟨B, 0, none⟩), .slice a n c] w fun e w' => e = .returned .nilIface ∧ w' = w.setCell ⟨B, 2, none⟩ (.slice a n c) := by
  go_enter Tryd.func6, Tryd.ntmps6
  go_wp2
  go_ret
  exact ⟨rfl, rfl⟩

theorem size (B : Nat) (a : Option Addr) (n c : Nat) (w : World) (h1 : w.cell? ⟨B, 1, none⟩ = some (.int .i64 0)) (h2 : w.cell? ⟨B, 2, none⟩ = some (.slice a n c)) (hn : n ≤ 1048576) :
    Calls Tryd.prog 9 #[.pointer (some ⟨B, 0, none⟩)] w fun e w' => e = .returned (.int .i64 n) ∧ ∃ q, w' = w.drewN q := by
  have hn' : (n : Int) ≤ 1048576 := by omega
  go_enter Tryd.func9, Tryd.ntmps9
  go_wp2
  go_quiet (fail)
  go_wp2
  go_ret
  exact ⟨rfl, _, rfl⟩

theorem truncate (B : Nat) (g len c : Nat) (n : Nat) (w : World) (h1 : w.cell? ⟨B, 1, none⟩ = some (.int .i64 0)) (h2 : w.cell? ⟨B, 2, none⟩ = some (.slice (some ⟨g, 0, none⟩) len c)) (f2 : w.frozen? ⟨B, 2, none⟩ = false) (hn : n ≤ 1048576) (hc : n ≤ c) :
    Calls Tryd.prog 8 #[.pointer (some ⟨B, 0, none⟩), .int .i64 n] w fun e w' => e = .returned (.tuple #[]) ∧ w' = (w.setCell ⟨B, 2, none⟩ (.slice (some ⟨g, 0, none⟩) n c)).drew := by
  have hn' : (n : Int) ≤ 1048576 := by omega
  have hc' : (n : Int) ≤ (c : Int) := by omega
  go_enter Tryd.func8, Tryd.ntmps8
  go_wp2
  go_region
  go_wp2
  exact bodyPost_ret (v := .tuple #[]) (results_none rfl _ _ _) rfl ⟨rfl, rfl⟩

theorem truncate_nil (B : Nat) (n : Nat) (hn : n = 0) (w : World) (h1 : w.cell? ⟨B, 1, none⟩ = some (.int .i64 0)) (h2 : w.cell? ⟨B, 2, none⟩ = some (.slice none 0 0)) (f2 : w.frozen? ⟨B, 2, none⟩ = false) :
    Calls Tryd.prog 8 #[.pointer (some ⟨B, 0, none⟩), .int .i64 n] w fun e w' => e = .returned (.tuple #[]) ∧ w' = (w.setCell ⟨B, 2, none⟩ (.slice none 0 0)).drew := by
  subst hn
  go_enter Tryd.func8, Tryd.ntmps8
  go_wp2
  go_region
  go_wp2
  exact bodyPost_ret (v := .tuple #[]) (results_none rfl _ _ _) rfl ⟨rfl, rfl⟩

theorem bytes4 (a b : Option Addr) (la ca lb cb : Nat) (n k : Int) (w : World) :
    Calls Tryd.prog 4 #[.slice a la ca, .slice b lb cb, .int .i64 n, .int .i64 k] w fun e w' => e = .returned (.bool (decide (la + lb ≤ 1048576))) ∧ w' = w := by
  by_cases h1 : la ≤ 1048576
  · have g1 : (la : Int) ≤ 1048576 := by omega
    by_cases h2 : lb ≤ 1048576
    · have g2 : (lb : Int) ≤ 1048576 := by omega
      by_cases h3 : la + lb ≤ 1048576
      · have g3 : (la : Int) + (lb : Int) ≤ 1048576 := by omega
        go_enter Tryd.func4, Tryd.ntmps4
        go_wp2
        go_ret
        exact ⟨by simp [h3], rfl⟩
      · have g3 : (1048576 : Int) < (la : Int) + (lb : Int) := by omega
        go_enter Tryd.func4, Tryd.ntmps4
        go_wp2
        go_ret
        exact ⟨by simp [h3], rfl⟩
    · have g2 : (1048576 : Int) < (lb : Int) := by omega
      have h3 : ¬ la + lb ≤ 1048576 := by omega
      go_enter Tryd.func4, Tryd.ntmps4
      go_wp2
      go_ret
      exact ⟨by simp [h3], rfl⟩
  · have g1 : (1048576 : Int) < (la : Int) := by omega
    have h3 : ¬ la + lb ≤ 1048576 := by omega
    go_enter Tryd.func4, Tryd.ntmps4
    go_wp2
    go_ret
    exact ⟨by simp [h3], rfl⟩

/-! ### A slice of bytes that came in, and append of it onto a row of the call's own -/

/-- A slice of bytes: its elements 'xs'; where there is one, it lies in a plain row of cells. -/
def Bytes (w : World) (ao : Option Addr) (len cap : Nat) (xs : List Int) : Prop :=
  xs.length = len ∧ ((len = 0 ∧ (ao = none → cap = 0)) ∨ ∃ b off, ao = some ⟨b, off, none⟩ ∧ ∀ j, j < len → w.cell? ⟨b, off + j, none⟩ = some (.int .u8 (xs.getD j 0)))

theorem Bytes.below {w w' : World} {ao : Option Addr} {len cap : Nat} {xs : List Int} (h : Bytes w ao len cap xs) (hb : Below w.heap.size w w') : Bytes w' ao len cap xs := by
  refine ⟨h.1, h.2.imp id ?_⟩
  rintro ⟨b, off, e, hc⟩
  refine ⟨b, off, e, fun j hj => ?_⟩
  have hlt : b < w.heap.size := World.block_lt_of_cell? w ⟨b, off + j, none⟩ (hc j hj)
  rw [hb.cell (p := ⟨b, off + j, none⟩) hlt]
  exact hc j hj

theorem info5 : (Tryd.prog.info? 5).map (fun i => (i.zero, i.size, i.bytes)) = some (some (.int .u8 0), 1, 1) := by kernel_rfl

theorem wpList_append_bytes {w : World} {ops : Array Oper} {rest : List Oper} {o : Oper} {a : Act} {Q : Exit → Act → World → Prop} (hgd : o.guard = none) (s x : Operand)
    (ho : o.op = .call { callee := .builtin .append, args := #[s, x], argTypes := #[22, 22] })
    (base : Nat) (v : Value) (n : Nat) (xs : List Value) (hs : a.eval s = v) (hown : w.ownsRow base 5 1 v n xs)
    (ao : Option Addr) (m c : Nat) (ys : List Int) (hx : a.eval x = .slice ao m c) (hb : Bytes w ao m c ys) (hlen : n + m ≤ 1048576) (hbase : base ≤ w.heap.size)
    (h : ∀ v' w', w'.ownsRow base 5 1 v' (n + m) (xs ++ ys.map (Value.int .u8)) → w.grownBy w' v.ownBlock → wpList Tryd.prog ops Q rest (a.put o.dst v') w') : wpList Tryd.prog ops Q (o :: rest) a w := by
  obtain ⟨i0, hi, hz0, hz1, hz2⟩ := info_parts info5
  have go : ∀ ad : Addr, ao = some ad → (∀ j u, (ys.map (Value.int .u8))[j]? = some u → w.cell? (ad.add j) = some u) → wpList Tryd.prog ops Q (o :: rest) a w := by
    intro ad e hcell
    subst e
    refine wpList_append_own w hgd s x 22 ho base 5 i0 (.int .u8 0) 1 1 Tryd.underlying22 hi hz0 hz1 hz2 rfl (by decide) v n xs hs hown ad m c (ys.map (Value.int .u8)) hx (by simp [hb.1]) hcell ?_ (by unfold maxLen; omega) (by omega) hbase ?_
    · intro u hu
      obtain ⟨_, _, rfl⟩ := List.mem_map.1 hu
      rfl
    · intro v' w' h1 h2 _
      exact h v' w' h1 h2
  rcases hb.2 with ⟨h0, hn⟩ | ⟨b, off, e, hc⟩
  · subst h0
    have hys : ys = [] := List.length_eq_zero_iff.1 hb.1
    cases ao with
    | none =>
      rw [hn rfl] at hx
      refine wpList_append_own_none hgd s x 22 ho base 5 i0 1 Tryd.underlying22 hi v n xs hs hown hx (h v w ?_ ⟨rfl, rfl, rfl, Nat.le_refl _, fun _ _ _ => rfl⟩)
      simpa [hys] using hown
    | some ad => exact go ad rfl (fun j u hu => by simp [hys] at hu)
  · refine go _ e (fun j u hu => ?_)
    rw [List.getElem?_map] at hu
    obtain ⟨z, hz, rfl⟩ := Option.map_eq_some_iff.1 hu
    have hj : j < m := by
      have := (List.getElem?_eq_some_iff.1 hz).1
      rw [hb.1] at this
      exact this
    have := hc j hj
    rw [List.getD_eq_getElem?_getD, hz] at this
    rw [Addr.add_lit]
    exact this

/-! ### The stack's box in a later world -/
structure St (w0 w : World) (B : Nat) (v : Value) : Prop where
  below : Below w0.heap.size w0 w
  c0 : w.cell? ⟨B, 0, none⟩ = some .nilIface
  c1 : w.cell? ⟨B, 1, none⟩ = some (.int .i64 0)
  c2 : w.cell? ⟨B, 2, none⟩ = some v
  c3 : w.cell? ⟨B, 3, none⟩ = some .nilIface
  f2 : w.frozen? ⟨B, 2, none⟩ = false
  lo : w0.heap.size ≤ B
  hi : B < w.heap.size

theorem St.drewN {w0 w : World} {B : Nat} {v : Value} (h : St w0 w B v) (q : Nat) : St w0 (w.drewN q) B v :=
  ⟨⟨h.below.os, h.below.tape, h.below.output, h.below.size, h.below.block⟩, h.c0, h.c1, h.c2, h.c3, h.f2, h.lo, h.hi⟩

theorem St.drew {w0 w : World} {B : Nat} {v : Value} (h : St w0 w B v) : St w0 w.drew B v := h.drewN 1

theorem St.put {w0 w : World} {B : Nat} {v : Value} (h : St w0 w B v) (u : Value) : St w0 (w.setCell ⟨B, 2, none⟩ u) B u := by
  refine ⟨h.below.setCell h.lo u, ?_, ?_, ?_, ?_, ?_, h.lo, by simpa using h.hi⟩
  · rw [World.cell?_setCell_other _ _ _ _ (by simp)]; exact h.c0
  · rw [World.cell?_setCell_other _ _ _ _ (by simp)]; exact h.c1
  · have := h.c2; go_simp
  · rw [World.cell?_setCell_other _ _ _ _ (by simp)]; exact h.c3
  · have := h.f2; go_simp

theorem St.grown {w0 w w' : World} {B : Nat} {v : Value} {row : Option Nat} (h : St w0 w B v) (hg : w.grownBy w' row) (hr : ∀ k, row = some k → B < k) : St w0 w' B v := by
  have hb := hg.block B h.hi (fun e => by have := hr B e.symm; omega)
  refine ⟨h.below.grown hg h.below.size (fun k e => by have := hr k e; have := h.lo; omega), ?_, ?_, ?_, ?_, ?_, h.lo, Nat.lt_of_lt_of_le h.hi hg.size⟩
  · rw [World.cell?_of_block (w := w) hb]; exact h.c0
  · rw [World.cell?_of_block (w := w) hb]; exact h.c1
  · rw [World.cell?_of_block (w := w) hb]; exact h.c2
  · rw [World.cell?_of_block (w := w) hb]; exact h.c3
  · rw [World.frozen?_of_block (w := w) hb]; exact h.f2

theorem St.new {w0 w : World} (h : Below w0.heap.size w0 w) : St w0 (w.alloc (.cells #[.nilIface, .int .i64 0, .slice none 0 0, .nilIface] 29)) w.heap.size (.slice none 0 0) :=
  ⟨h.alloc h.size _, by go_simp, by go_simp, by go_simp, by go_simp, by go_simp, h.size, by simp⟩

theorem ownsRow_drewN {w : World} {base e size n : Nat} {v : Value} {xs : List Value} (h : w.ownsRow base e size v n xs) (q : Nat) : (w.drewN q).ownsRow base e size v n xs := h

end Go.Proofs.Qxb6608526aDoor.Spill
