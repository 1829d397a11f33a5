import Derived.Test.Qxb6608526aRows
import Derived.Test.Qxb6608526aNames
import Derived.WalkKit
import Derived.WalkSpells
import Derived.RegionTactic
import Derived.ChangeAlike
import Derived.Deep.QuietTactic
import Derived.BigQuiet
import Derived.Deep.RegionWith
import Derived.Below
import Derived.OwnWalk
import Derived.Outline
namespace Go.Proofs.Qxb6608526a.Attr
open Go.RowKit Names
set_option linter.unusedVariables false

theorem ret_int {k : IntKind} {a b : Int} (h : a = b) : Ending.returned (.int k a) = .returned (.int k b) := by rw [h]
theorem ret_bool {a b : Bool} (h : a = b) : Ending.returned (.bool a) = .returned (.bool b) := by rw [h]
theorem qt1 (w : World) (a : Nat) : ∃ q, w.drewN a = w.drewN q := ⟨_, rfl⟩
theorem qt2 (w : World) (a b : Nat) : ∃ q, (w.drewN a).drewN b = w.drewN q := ⟨_, World.drewN_drewN _ _ _⟩
theorem qt3 (w : World) (a b c : Nat) : ∃ q, ((w.drewN a).drewN b).drewN c = w.drewN q := ⟨a + (b + c), by rw [World.drewN_drewN, World.drewN_drewN]⟩

theorem cmpString36 (a b : ByteArray) (w : World) :
    Calls Try.prog 36 #[.string a, .string b] w fun e w' => e = .returned (.int .i64 (cmpS a b)) ∧ w' = w := by
  go_enter Try.func36, Try.ntmps36
  go_wp2
  rw [run_callFunc_extern Try.func37 (by kernel_rfl) (by kernel_rfl) (by kernel_rfl) (e := Extern.BytealgCompare.compare) (by kernel_rfl), Lib.run_compareString]
  simp only [Result.andThen]
  rw [Oper.upon_value]
  go_wp2
  go_ret
  exact ⟨rfl, rfl⟩

theorem compare35 (a b : ByteArray) (w : World) :
    Calls Try.prog 35 #[.string a, .string b] w fun e w' => e = .returned (.int .i64 (cmpS a b)) ∧ w' = w := by
  go_enter Try.func35, Try.ntmps35
  go_wp2_with (go_at_call 36; refine (cmpString36 _ _ _).mono ?_; rintro e w' ⟨rfl, rfl⟩)
  go_ret
  exact ⟨rfl, rfl⟩

/-- cmp.Or of two ints: the first that is not 0. -/
def or2 (a b : Int) : Int := if a = 0 then b else a

theorem or34 (g : Nat) (a b : Int) (w : World) (h0 : w.cell? ⟨g, 0, none⟩ = some (.int .i64 a)) (h1 : w.cell? ⟨g, 1, none⟩ = some (.int .i64 b)) :
    Calls Try.prog 34 #[.slice (some ⟨g, 0, none⟩) 2 2] w fun e w' => e = .returned (.int .i64 (or2 a b)) ∧ w' = w := by
  by_cases ha : a = 0
  · have ha' : (a == 0) = true := by simp [ha]
    have E : Hid (or2 a b = b) := by simp [or2, ha, Hid]
    have ha2 : (a != 0) = false := by simp [ha]
    clear ha ha'
    go_enter Try.func34, Try.ntmps34
    go_wp2
    go_loop [8, 5] (fun i _ => i = .int .i64 0 ∨ i = .int .i64 1 ∨ (i = .int .i64 2 ∧ b = 0)) (fun i _ => 2 - (intOf i).toNat)
    case atStart => exact .inl rfl
    case round =>
      rcases hrel with rfl | rfl | ⟨rfl, hb⟩
      · go_wp2
        exact ⟨.inr (.inl rfl), by simp [intOf]⟩
      · by_cases hb : b = 0
        · have hb' : (b != 0) = false := by simp [hb]
          have Hb : Hid (b = 0) := hb
          clear hb
          go_wp2
          exact ⟨.inr (.inr ⟨rfl, Hb.out⟩), by simp [intOf]⟩
        · have hb' : (b != 0) = true := by simp [hb]
          clear hb
          go_wp2
          go_ret
          exact ⟨ret_int E.out.symm, rfl⟩
      · have Hb : Hid (b = 0) := hb
        clear hb
        go_wp2
        go_ret
        exact ⟨ret_int (by rw [E.out, Hb.out]), rfl⟩
  · have e : or2 a b = a := by simp [or2, ha]
    have ha' : (a != 0) = true := by simp [ha]
    rw [e]
    clear e ha
    go_enter Try.func34, Try.ntmps34
    go_wp2
    go_loop [8, 5] (fun i _ => i = .int .i64 0) (fun _ _ => 0)
    case atStart => exact rfl
    case round =>
      obtain rfl := hrel
      go_wp2
      go_ret
      exact ⟨rfl, rfl⟩

theorem min11 (a b : Nat) (w : World) :
    Calls Try.prog 11 #[.int .i64 a, .int .i64 b] w fun e w' => e = .returned (.int .i64 (min a b : Nat)) ∧ w' = w := by
  by_cases h : a < b
  · have h1 : (a : Int) < (b : Int) := by omega
    have e : min a b = a := by omega
    rw [e]
    clear e
    go_enter Try.func11, Try.ntmps11
    go_wp2
    go_ret
    exact ⟨rfl, rfl⟩
  · have h1 : ¬ (a : Int) < (b : Int) := by omega
    have e : min a b = b := by omega
    rw [e]
    clear e
    go_enter Try.func11, Try.ntmps11
    go_wp2
    go_ret
    exact ⟨rfl, rfl⟩

theorem compareStrings26 (a b : ByteArray) (w : World) (ha : a.size ≤ 1048576) (hb : b.size ≤ 1048576) :
    Calls Try.prog 26 #[.string a, .string b] w fun e w' => e = .returned (.int .i64 (cmpS a b)) ∧ ∃ q, w' = w.drewN q := by
  obtain ⟨n, hn⟩ : ∃ n, n = min a.size b.size := ⟨_, rfl⟩
  have hna : n ≤ a.size := by omega
  have hnb : n ≤ b.size := by omega
  go_enter Try.func26, Try.ntmps26
  go_wp2_with fail
  refine (min11 _ _ _).mono ?_
  rw [← hn]
  rintro e w' ⟨rfl, rfl⟩
  have Hn : Hid (n = min a.size b.size) := hn
  clear hn
  go_wp2_with fail
  go_loopw [6] (fun i wr => ∃ k : Nat, k ≤ n ∧ i = .int .i64 k ∧ Same a b k ∧ ∃ q, wr = w'.drewN q) (fun i _ => n - (intOf i).toNat)
  case atStart => exact ⟨0, Nat.zero_le _, rfl, same_zero _ _, 0, rfl⟩
  case round =>
    obtain ⟨k, hk, rfl, hsame, q, rfl⟩ := hrel
    have HS : Hid (Same a b k) := hsame
    clear hsame
    by_cases hlt : k < n
    · have i0 : (k : Int) < (n : Int) := by omega
      have i1 : k < a.size := by omega
      have i2 : k < b.size := by omega
      have i3 : (k : Int) < (a.size : Int) := by omega
      have i4 : (k : Int) < (b.size : Int) := by omega
      by_cases c1 : a[k].toNat < b[k].toNat
      · go_wp2
        go_quiet (fail)
        go_wp2
        go_ret
        exact ⟨ret_int (cmpS_lt i1 i2 HS.out (by omega)).symm, qt2 _ _ _⟩
      · by_cases c2 : b[k].toNat < a[k].toNat
        · go_wp2
          go_quiet (fail)
          go_wp2
          go_quiet (fail)
          go_wp2
          go_ret
          exact ⟨ret_int (cmpS_gt i1 i2 HS.out (by omega)).symm, by first | exact qt1 _ _ | exact qt2 _ _ _ | exact qt3 _ _ _ _⟩
        · go_wp2
          go_quiet (fail)
          go_wp2
          go_quiet (fail)
          go_wp2
          exact ⟨⟨k + 1, by omega, by go_num, same_succ i1 i2 HS.out (by omega) (by omega), by first | exact qt1 _ _ | exact qt2 _ _ _ | exact qt3 _ _ _ _⟩, by simp [intOf]; omega⟩
    · have hkn : k = min a.size b.size := by have := Hn.out; omega
      have he := cmpS_end hkn HS.out
      have He : Hid (cmpS a b = if a.size < b.size then -1 else if b.size < a.size then 1 else 0) := he
      clear he hkn
      by_cases c1 : a.size < b.size
      · have c1' : (a.size : Int) < (b.size : Int) := by omega
        go_wp2
        go_ret
        exact ⟨ret_int (by rw [He.out, if_pos c1]), _, rfl⟩
      · by_cases c2 : b.size < a.size
        · have c2' : (b.size : Int) < (a.size : Int) := by omega
          go_wp2
          go_ret
          exact ⟨ret_int (by rw [He.out, if_neg c1, if_pos c2]), _, rfl⟩
        · have c1' : ¬ (a.size : Int) < (b.size : Int) := by omega
          have c2' : ¬ (b.size : Int) < (a.size : Int) := by omega
          go_wp2
          go_ret
          exact ⟨ret_int (by rw [He.out, if_neg c1, if_neg c2]), _, rfl⟩

/-- What both tests for names hand back. -/
theorem cmpN_eq (a b c d : ByteArray) : cmpN (a, b) (c, d) = or2 (cmpS a c) (cmpS b d) := rfl

theorem compareNames13 (a b c d : ByteArray) (w : World) (ha : a.size ≤ 1048576) (hb : b.size ≤ 1048576) (hc : c.size ≤ 1048576) (hd : d.size ≤ 1048576) :
    Calls Try.prog 13 #[.string a, .string b, .string c, .string d] w fun e w' => e = .returned (.int .i64 (cmpN (a, b) (c, d))) ∧ ∃ q, w' = w.drewN q := by
  go_enter Try.func13, Try.ntmps13
  go_wp2_with fail
  refine (compareStrings26 a c _ ha hc).mono ?_
  rintro e w1 ⟨rfl, q, rfl⟩
  by_cases h : cmpS a c = 0
  · have h' : (cmpS a c != 0) = false := by simp [h]
    have e : cmpN (a, b) (c, d) = cmpS b d := by simp [cmpN, h]
    have E : Hid (cmpN (a, b) (c, d) = cmpS b d) := e
    clear e h
    go_wp2_with fail
    refine (compareStrings26 b d _ hb hd).mono ?_
    rintro e w2 ⟨rfl, q2, rfl⟩
    go_wp2_with fail
    go_ret
    exact ⟨ret_int E.out.symm, by first | exact qt1 _ _ | exact qt2 _ _ _⟩
  · have h' : (cmpS a c != 0) = true := by simp [h]
    have e : cmpN (a, b) (c, d) = cmpS a c := by simp [cmpN, h]
    have E : Hid (cmpN (a, b) (c, d) = cmpS a c) := e
    clear e h
    go_wp2_with fail
    go_ret
    exact ⟨ret_int E.out.symm, by first | exact qt1 _ _ | exact qt2 _ _ _⟩

end Go.Proofs.Qxb6608526a.Attr
