import Derived.Test.Qxb6606013aFmtCards
import Derived.WalkKit
import Derived.WalkSpells
import Derived.Stop.CallBack
import Derived.Stop.IfaceNil
import Derived.Below
namespace Go.Proofs.Qxb6606013aFmt
open Go.RowKit Go.Extern.Stop Go.Stop Go.Extern

theorem call10 (args : Array Value) (w : World) : (callFunc 10 args).run Tryf.prog w = ((FmtStop.errorf #[9, 32] #[27] args).run Tryf.prog w).andThen fun v w' => .ok (.value v) w' :=
  run_callFunc_extern Tryf.func10 (by kernel_rfl) (by kernel_rfl) (by kernel_rfl) (by kernel_rfl) args w
theorem guardOk (name : String) (w : World) : (FmtStop.guard name).run Tryf.prog w = .ok () w := by kernel_rfl
theorem fmt0 : FmtStop.printed? ⟨#[117, 110, 107, 110, 111, 119, 110, 32, 111, 117, 116, 99, 111, 109, 101, 32, 37, 113]⟩ 1 = some [(0, 113, false)] := by kernel_rfl
theorem fmt0r (w : World) : (FmtDoors.printed ⟨#[117, 110, 107, 110, 111, 119, 110, 32, 111, 117, 116, 99, 111, 109, 101, 32, 37, 113]⟩ 1).run Tryf.prog w = .ok [(0, 113, false)] w := by kernel_rfl
def shape9 : List UInt8 := [12, 6, 0, 0, 0, 0, 0, 0, 0, 115, 116, 114, 105, 110, 103]
theorem op9_113 (name : String) (x : ByteArray) (w : World) : (FmtStop.operand name false 113 false (.iface 9 (.string x))).run Tryf.prog w = .ok (shape9, FmtStop.pack x.data.toList) w := by kernel_rfl
theorem op9_113w (name : String) (x : ByteArray) (w : World) : (FmtStop.operand name true 113 false (.iface 9 (.string x))).run Tryf.prog w = .ok (shape9, FmtStop.pack x.data.toList) w := by kernel_rfl
theorem ptr35 (w : World) : (FmtStop.ptrTo "errors.errorString").run Tryf.prog w = .ok 35 w := by kernel_rfl
theorem elem35 (w : World) : (elemOf 35).run Tryf.prog w = .ok 37 w := by kernel_rfl
theorem isError35 (w : World) : (FmtDoors.textMethod 35 "Error").run Tryf.prog w = .ok true w := by kernel_rfl
theorem ptr34 (w : World) : (FmtStop.ptrTo "fmt.wrapError").run Tryf.prog w = .ok 34 w := by kernel_rfl
theorem elem34 (w : World) : (elemOf 34).run Tryf.prog w = .ok 55 w := by kernel_rfl
theorem isError34 (w : World) : (FmtDoors.textMethod 34 "Error").run Tryf.prog w = .ok true w := by kernel_rfl
attribute [local go_sem] call10 guardOk fmt0 fmt0r op9_113 op9_113w ptr35 elem35 isError35 ptr34 elem34 isError34

/-- fmt.Errorf of this one format: a new error that is not nil; nothing that was there has turned. -/
theorem errorf_calls (F : Interp) (s : ByteArray) (blk : Nat) (w : World) (hF : F.answers w.tape) (hc : w.cell? ⟨blk, 0, none⟩ = some (.iface 9 (.string s))) :
    Calls Tryf.prog 9 #[.string ⟨#[117, 110, 107, 110, 111, 119, 110, 32, 111, 117, 116, 99, 111, 109, 101, 32, 37, 113]⟩, .slice (some ⟨blk, 0, none⟩) 1 1] w fun e w' =>
      (∃ a, e = .returned (.iface 35 (.pointer (some a)))) ∧ Below w.heap.size w w' := by
  have hF' := answers_open hF
  go_enter Tryf.func9, Tryf.ntmps9
  go_wp2
  go_ret
  exact ⟨⟨_, rfl⟩, ((Below.refl _ _).alloc (Nat.le_refl _) _).drew⟩


/-! ### THE PLAIN FUNCTIONS: which words are read by whom -/
def asksB (s : ByteArray) : Bool := s.toList == [118, 111, 116, 101] || s.toList == [112, 114, 101, 112, 97, 114, 101] || s.toList == [115, 105, 110, 103, 108, 101, 45, 112, 104, 97, 115, 101, 45, 99, 111, 109, 109, 105, 116]
def decB (s : ByteArray) : Bool := s.toList == [112, 104, 97, 115, 101, 45, 122, 101, 114, 111] || asksB s
def outB (s : ByteArray) : Bool := s.toList == [99, 111, 109, 109, 105, 116, 116, 101, 100] || s.toList == [97, 98, 111, 114, 116, 101, 100] || s.toList == [105, 110, 45, 100, 111, 117, 98, 116]
def wordB (s : ByteArray) : Bool := outB s || decB s

/-- No word is read by both. -/
theorem not_both (s : ByteArray) (h : outB s = true) : decB s = false := by
  simp only [outB, Bool.or_eq_true, beq_iff_eq] at h
  rcases h with (h | h) | h <;> simp [decB, asksB, h]

theorem ret_bool {a b : Bool} (h : a = b) : Ending.returned (.bool a) = .returned (.bool b) := by rw [h]

theorem asks_calls (s : ByteArray) (w : World) :
    Calls Tryf.prog 8 #[.string s] w fun e w' => e = .returned (.bool (asksB s)) ∧ w' = w := by
  go_enter Tryf.func8, Tryf.ntmps8
  go_wp2
  all_goals
    go_ret
    exact ⟨ret_bool (by simp [asksB, *]), rfl⟩

theorem decides_calls (s : ByteArray) (w : World) :
    Calls Tryf.prog 5 #[.string s] w fun e w' => e = .returned (.bool (decB s)) ∧ w' = w := by
  go_enter Tryf.func5, Tryf.ntmps5
  go_wp2_with (go_at_call 8; refine (asks_calls _ _).mono ?_; rintro e w' ⟨rfl, rfl⟩)
  all_goals
    go_ret
    exact ⟨ret_bool (by simp [decB, *]), rfl⟩

theorem word_calls (s : ByteArray) (w : World) :
    Calls Tryf.prog 7 #[.string s] w fun e w' => e = .returned (.bool (wordB s)) ∧ w' = w := by
  go_enter Tryf.func7, Tryf.ntmps7
  go_wp2
  all_goals first
    | (exfalso; rename_i p q; rw [p] at q; cases q; done)
    | (go_ret; exact ⟨ret_bool (by simp [wordB, outB, decB, asksB, *]), rfl⟩)

theorem parse_yes (s : ByteArray) (w : World) (h : outB s = true) :
    Calls Tryf.prog 6 #[.string s] w fun e w' => e = .returned (.tuple #[.string s, .nilIface]) ∧ w' = w := by
  cases h1 : (s.toList == [99, 111, 109, 109, 105, 116, 116, 101, 100])
  · cases h2 : (s.toList == [97, 98, 111, 114, 116, 101, 100])
    · have h3 : (s.toList == [105, 110, 45, 100, 111, 117, 98, 116]) = true := by simpa [outB, h1, h2] using h
      clear h
      go_enter Tryf.func6, Tryf.ntmps6
      go_wp2_with fail
      go_ret2
      exact ⟨rfl, rfl⟩
    · clear h
      go_enter Tryf.func6, Tryf.ntmps6
      go_wp2_with fail
      go_ret2
      exact ⟨rfl, rfl⟩
  · clear h
    go_enter Tryf.func6, Tryf.ntmps6
    go_wp2_with fail
    go_ret2
    exact ⟨rfl, rfl⟩

theorem parse_no (F : Interp) (s : ByteArray) (w : World) (hF : F.answers w.tape) (h : outB s = false) :
    Calls Tryf.prog 6 #[.string s] w fun e w' => (∃ a, e = .returned (.tuple #[.string ⟨#[]⟩, .iface 35 (.pointer (some a))])) ∧ Below w.heap.size w w' := by
  have h' := h
  simp only [outB, Bool.or_eq_false_iff] at h'
  obtain ⟨⟨h1, h2⟩, h3⟩ := h'
  clear h
  go_enter Tryf.func6, Tryf.ntmps6
  go_wp2_with fail
  refine (errorf_calls F s w.heap.size (w.alloc (.cells #[.iface 9 (.string s)] 20)) hF (by go_simp)).mono ?_
  rintro e w' ⟨⟨a, rfl⟩, hb⟩
  go_wp2_with fail
  go_ret2
  exact ⟨⟨_, rfl⟩, ((Below.refl _ _).alloc (Nat.le_refl _) _).trans (hb.mono (by simp))⟩


theorem bytes_calls (s : ByteArray) (w : World) :
    Calls Tryf.prog 4 #[.string s] w fun e w' => e = .returned (.bool (decide (s.size ≤ 1048576))) ∧ w' = w := by
  by_cases h : s.size ≤ 1048576
  · have h1 : (s.size : Int) ≤ 1048576 := by omega
    go_enter Tryf.func4, Tryf.ntmps4
    go_wp2
    go_ret
    exact ⟨ret_bool (by simp [h]), rfl⟩
  · have h1 : (1048576 : Int) < (s.size : Int) := by omega
    go_enter Tryf.func4, Tryf.ntmps4
    go_wp2
    go_ret
    exact ⟨ret_bool (by simp [h]), rfl⟩

/-- THE LAW's WALK: the Go text returns true at every string. -/
theorem law_calls (F : Interp) (s : ByteArray) (w : World) (hF : F.answers w.tape) :
    Calls Tryf.prog 3 #[.string s] w fun e w' => e = .returned (.bool true) ∧ Below w.heap.size w w' := by
  by_cases hs : s.size ≤ 1048576
  · by_cases hs2 : s.size ≤ 262136
    · have hl : (s.size : Int) ≤ 262136 := by omega
      have hd : decide (s.size ≤ 1048576) = true := by simp [hs]
      cases ho : outB s with
      | true =>
        have hn := not_both s ho
        have hw : wordB s = true := by simp [wordB, ho]
        have Ho : Hid (outB s = true) := ho
        clear ho
        go_enter Tryf.func3, Tryf.ntmps3
        go_wp2_with (first
          | (go_at_call 4; refine (bytes_calls _ _).mono ?_; rintro e w' ⟨rfl, rfl⟩)
          | (go_at_call 5; refine (decides_calls _ _).mono ?_; rintro e w' ⟨rfl, rfl⟩)
          | (go_at_call 6; refine (parse_yes _ _ Ho.out).mono ?_; rintro e w' ⟨rfl, rfl⟩)
          | (go_at_call 7; refine (word_calls _ _).mono ?_; rintro e w' ⟨rfl, rfl⟩))
        go_ret
        exact ⟨rfl, Below.refl _ _⟩
      | false =>
        have Ho : Hid (outB s = false) := ho
        have hw : wordB s = decB s := by simp [wordB, ho]
        clear ho
        cases hd2 : decB s with
        | true =>
          rw [hd2] at hw
          go_enter Tryf.func3, Tryf.ntmps3
          go_wp2_with (first
            | (go_at_call 4; refine (bytes_calls _ _).mono ?_; rintro e w' ⟨rfl, rfl⟩)
            | (go_at_call 5; refine (decides_calls _ _).mono ?_; rintro e w' ⟨rfl, rfl⟩)
            | (go_at_call 6; refine (parse_no F _ _ hF Ho.out).mono ?_; rintro e w1 ⟨⟨a, rfl⟩, hb⟩)
            | (go_at_call 7; refine (word_calls _ _).mono ?_; rintro e w' ⟨rfl, rfl⟩))
          go_ret
          exact ⟨rfl, by assumption⟩
        | false =>
          rw [hd2] at hw
          go_enter Tryf.func3, Tryf.ntmps3
          go_wp2_with (first
            | (go_at_call 4; refine (bytes_calls _ _).mono ?_; rintro e w' ⟨rfl, rfl⟩)
            | (go_at_call 5; refine (decides_calls _ _).mono ?_; rintro e w' ⟨rfl, rfl⟩)
            | (go_at_call 6; refine (parse_no F _ _ hF Ho.out).mono ?_; rintro e w1 ⟨⟨a, rfl⟩, hb⟩)
            | (go_at_call 7; refine (word_calls _ _).mono ?_; rintro e w' ⟨rfl, rfl⟩))
          go_ret
          exact ⟨rfl, by assumption⟩
    · have hl : (262136 : Int) < (s.size : Int) := by omega
      have hd : decide (s.size ≤ 1048576) = true := by simp [hs]
      go_enter Tryf.func3, Tryf.ntmps3
      go_wp2_with (go_at_call 4; refine (bytes_calls _ _).mono ?_; rintro e w' ⟨rfl, rfl⟩)
      go_ret
      exact ⟨rfl, Below.refl _ _⟩
  · have hd : decide (s.size ≤ 1048576) = false := by simp [hs]
    go_enter Tryf.func3, Tryf.ntmps3
    go_wp2_with (go_at_call 4; refine (bytes_calls _ _).mono ?_; rintro e w' ⟨rfl, rfl⟩)
    go_ret
    exact ⟨rfl, Below.refl _ _⟩

end Go.Proofs.Qxb6606013aFmt
