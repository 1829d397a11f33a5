import Derived.Test.Qxb6613690aFmtCards
import Derived.WalkKit
import Derived.WalkSpells
import Derived.Laws.EntriesVeiled
import Derived.Deep.QuietTactic
import Derived.BigQuiet
import Derived.WalkSmall
import Derived.Defers
import Derived.Recover
import Derived.Stop.CallBack
import Derived.Stop.IfaceNil
import Derived.Below
namespace Go.Proofs.Qxb6613690aFmt
open Go.RowKit Go.Extern.Stop Go.Stop Go.Extern
set_option linter.unusedVariables false

/-- The deferred closure: the depth goes back by one. -/
theorem less_deferred (A B : Nat) (x : Int) (u : FrameMode) (w : World) (hp : w.cell? ⟨A, 0, none⟩ = some (.pointer (some ⟨B, 0, none⟩)))
    (hc : w.cell? ⟨B, 2, none⟩ = some (.int .i64 x)) (hz : w.frozen? ⟨B, 2, none⟩ = false) (h1 : 0 ≤ x) (h2 : x ≤ 1000) :
    CallsD Tryf.prog 11 #[.pointer (some ⟨A, 0, none⟩)] u w fun e u' w' => u' = u ∧ (e = .returned (.tuple #[]) ∧ w' = w.setCell ⟨B, 2, none⟩ (.int .i64 (x - 1))) := by
  go_enter_d Tryf.func11, Tryf.ntmps11
  go_wp2
  go_end0
  exact ⟨rfl, rfl⟩

/-- The closure that ZZnested hands in: an expression of kind k, no error. -/
theorem reads (K : Nat) (k : Int) (w : World) (hc : w.cell? ⟨K, 0, none⟩ = some (.int .i64 k)) :
    Calls Tryf.prog 9 #[.pointer (some ⟨K, 0, none⟩)] w fun e w' => e = .returned (.tuple #[.agg #[.int .i64 k, .nilFunc, .nilFunc, .nilFunc], .nilIface]) ∧ w' = w.alloc (.cells #[.int .i64 k, .nilFunc, .nilFunc, .nilFunc] 37) := by
  have hK := World.block_lt_of_cell? w ⟨K, 0, none⟩ hc
  have hc2 : ∀ o, (w.alloc o).cell? ⟨K, 0, none⟩ = some (.int .i64 k) := fun o => ((((Below.refl w.heap.size w).alloc (Nat.le_refl _) o)).cell (p := ⟨K, 0, none⟩) hK).trans hc
  go_enter Tryf.func9, Tryf.ntmps9
  go_wp2
  refine bodyPost_ret (v := .tuple #[.agg #[.int .i64 k, .nilFunc, .nilFunc, .nilFunc], .nilIface]) (by simp [results, Tryf.results9, go_sem]) rfl ⟨rfl, rfl⟩

/-- What stands behind a call: below the parser's block nothing has turned; the parser's depth is 'x'. -/
def Aft (B : Nat) (x : Int) (w w' : World) : Prop := Below B w w' ∧ w'.cell? ⟨B, 2, none⟩ = some (.int .i64 x) ∧ w'.frozen? ⟨B, 2, none⟩ = false

theorem results8_at (tmps : Array Value) (A : Nat) (k : Int) (x : Value) (w : World) (h4 : tmps.getD 4 undef = .pointer (some ⟨A, 0, none⟩)) (h5 : tmps.getD 5 undef = x)
    (c0 : w.cell? ⟨A, 0, none⟩ = some (.int .i64 k)) (c1 : w.cell? ⟨A, 1, none⟩ = some .nilFunc) (c2 : w.cell? ⟨A, 2, none⟩ = some .nilFunc) (c3 : w.cell? ⟨A, 3, none⟩ = some .nilFunc) :
    (results Tryf.f8 tmps).run Tryf.prog w = .ok (.tuple #[.agg #[.int .i64 k, .nilFunc, .nilFunc, .nilFunc], x]) w := by
  rw [results_cell_tmp Tryf.results8, h4, h5]
  simp [go_sem, c0, c1, c2, c3]

theorem deep3 (w : World) (o1 o2 o3 : Obj) : Below w.heap.size w (((w.alloc o1).alloc o2).alloc o3) := ((((Below.refl w.heap.size w).alloc (Nat.le_refl _) o1).alloc (by simp) o2).alloc (by simp; omega) o3)

theorem nested_ok (B K : Nat) (d k : Int) (w : World) (hc : w.cell? ⟨B, 2, none⟩ = some (.int .i64 d)) (hz : w.frozen? ⟨B, 2, none⟩ = false) (hk : w.cell? ⟨K, 0, none⟩ = some (.int .i64 k))
    (hKB : B ≠ K) (h0 : 0 ≤ d) (h1 : d + 1 ≤ 100) :
    Calls Tryf.prog 8 #[.pointer (some ⟨B, 0, none⟩), .func (.func 9) #[] #[.pointer (some ⟨K, 0, none⟩)]] w fun e w' => e = .returned (.tuple #[.agg #[.int .i64 k, .nilFunc, .nilFunc, .nilFunc], .nilIface]) ∧ Aft B d w w' := by
  have hmf : ∀ (fn : Fn) (first cap : Array Value) (w : World), (Instr.makeFunc fn first cap).run Tryf.prog w = .ok (.func fn first cap) w := fun _ _ _ _ => rfl
  have hB : B < w.heap.size := World.block_lt_of_cell? w ⟨B, 2, none⟩ hc
  have hK := World.block_lt_of_cell? w ⟨K, 0, none⟩ hk
  have c3 : ∀ v o1 o2 o3, ((((w.setCell ⟨B, 2, none⟩ v).alloc o1).alloc o2).alloc o3).cell? ⟨B, 2, none⟩ = some v := fun v o1 o2 o3 => by
    rw [(deep3 (w.setCell ⟨B, 2, none⟩ v) o1 o2 o3).cell (p := ⟨B, 2, none⟩) (by simpa using hB)]
    go_simp
  have z3 : ∀ v o1 o2 o3, ((((w.setCell ⟨B, 2, none⟩ v).alloc o1).alloc o2).alloc o3).frozen? ⟨B, 2, none⟩ = false := fun v o1 o2 o3 => by
    rw [(deep3 (w.setCell ⟨B, 2, none⟩ v) o1 o2 o3).frozen (p := ⟨B, 2, none⟩) (by simpa using hB)]
    go_simp
  have C3 : Hid (∀ v o1 o2 o3, ((((w.setCell ⟨B, 2, none⟩ v).alloc o1).alloc o2).alloc o3).cell? ⟨B, 2, none⟩ = some v) := c3
  have Z3 : Hid (∀ v o1 o2 o3, ((((w.setCell ⟨B, 2, none⟩ v).alloc o1).alloc o2).alloc o3).frozen? ⟨B, 2, none⟩ = false) := z3
  clear c3 z3
  go_enter_defers Tryf.func8, Tryf.ntmps8
  go_wp2_with fail
  refine (reads K k _ (by go_simp)).mono ?_
  rintro e w' ⟨rfl, rfl⟩
  go_wp2_with fail
  refine leaves_cons (f := 11) (args := #[.pointer (some ⟨w.heap.size, 0, none⟩)]) (by simp) (by simp [go_sem]) ?_
  refine (less_deferred w.heap.size B (d + 1) .returning _ (by go_simp) (C3.out _ _ _ _) (Z3.out _ _ _ _) (by omega) (by omega)).mono ?_
  rintro e u' w'' ⟨rfl, rfl, rfl⟩
  have e1 : d + 1 - 1 = d := by omega
  rw [e1]
  refine ⟨_, results8_at _ (w.heap.size + 1) k .nilIface _ rfl rfl (by go_simp) (by go_simp) (by go_simp) (by go_simp), rfl, ?_, ?_, ?_⟩
  · exact ((((((Below.refl B w).setCell (Nat.le_refl _) _).alloc (by simp only [World.size_setCell]; omega) _).alloc (by simp only [World.size_setCell, World.size_alloc]; omega) _).alloc (by simp only [World.size_setCell, World.size_alloc]; omega) _).setCell (Nat.le_refl _) _)
  · exact World.cell?_setCell_same _ _ _ (C3.out _ _ _ _)
  · rw [World.frozen?_setCell]
    exact Z3.out _ _ _ _

theorem call12 (args : Array Value) (w : World) : (callFunc 12 args).run Tryf.prog w = ((FmtStop.errorf #[9, 44] #[39] args).run Tryf.prog w).andThen fun v w' => .ok (.value v) w' :=
  run_callFunc_extern Tryf.func12 (by kernel_rfl) (by kernel_rfl) (by kernel_rfl) (by kernel_rfl) args w
theorem guardOk (name : String) (w : World) : (FmtStop.guard name).run Tryf.prog w = .ok () w := by kernel_rfl
theorem fmt0 : FmtStop.printed? ⟨#[110, 101, 115, 116, 115, 32, 112, 97, 114, 101, 110, 116, 104, 101, 115, 101, 115, 32, 97, 110, 100, 32, 109, 97, 116, 99, 104, 32, 100, 101, 101, 112, 101, 114, 32, 116, 104, 97, 110, 32, 37, 100, 32, 108, 101, 118, 101, 108, 115]⟩ 1 = some [(0, 100, false)] := by kernel_rfl
theorem fmt0r (w : World) : (FmtDoors.printed ⟨#[110, 101, 115, 116, 115, 32, 112, 97, 114, 101, 110, 116, 104, 101, 115, 101, 115, 32, 97, 110, 100, 32, 109, 97, 116, 99, 104, 32, 100, 101, 101, 112, 101, 114, 32, 116, 104, 97, 110, 32, 37, 100, 32, 108, 101, 118, 101, 108, 115]⟩ 1).run Tryf.prog w = .ok [(0, 100, false)] w := by kernel_rfl
def shape3 : List UInt8 := [5, 3, 0, 0, 0, 0, 0, 0, 0, 105, 110, 116]
theorem op3_100 (name : String) (w : World) : (FmtStop.operand name false 100 false (.iface 3 (.int .i64 100))).run Tryf.prog w = .ok (shape3, [100, 0, 0, 0, 0, 0, 0, 0]) w := by kernel_rfl
theorem op3_100w (name : String) (w : World) : (FmtStop.operand name true 100 false (.iface 3 (.int .i64 100))).run Tryf.prog w = .ok (shape3, [100, 0, 0, 0, 0, 0, 0, 0]) w := by kernel_rfl
theorem ptr47 (w : World) : (FmtStop.ptrTo "errors.errorString").run Tryf.prog w = .ok 47 w := by kernel_rfl
theorem elem47 (w : World) : (elemOf 47).run Tryf.prog w = .ok 49 w := by kernel_rfl
theorem isError47 (w : World) : (FmtDoors.textMethod 47 "Error").run Tryf.prog w = .ok true w := by kernel_rfl
theorem ptr46 (w : World) : (FmtStop.ptrTo "fmt.wrapError").run Tryf.prog w = .ok 46 w := by kernel_rfl
theorem elem46 (w : World) : (elemOf 46).run Tryf.prog w = .ok 73 w := by kernel_rfl
theorem isError46 (w : World) : (FmtDoors.textMethod 46 "Error").run Tryf.prog w = .ok true w := by kernel_rfl
attribute [local go_sem] call12 guardOk fmt0 fmt0r op3_100 op3_100w ptr47 elem47 isError47 ptr46 elem46 isError46

/-- fmt.Errorf of this one format: a new error that is not nil; nothing that was there has turned. -/
theorem errorf_calls (F : Interp) (blk : Nat) (w : World) (hF : F.answers w.tape) (hc : w.cell? ⟨blk, 0, none⟩ = some (.iface 3 (.int .i64 100))) :
    Calls Tryf.prog 10 #[.string ⟨#[110, 101, 115, 116, 115, 32, 112, 97, 114, 101, 110, 116, 104, 101, 115, 101, 115, 32, 97, 110, 100, 32, 109, 97, 116, 99, 104, 32, 100, 101, 101, 112, 101, 114, 32, 116, 104, 97, 110, 32, 37, 100, 32, 108, 101, 118, 101, 108, 115]⟩, .slice (some ⟨blk, 0, none⟩) 1 1] w fun e w' =>
      (∃ a, e = .returned (.iface 47 (.pointer (some a)))) ∧ Below w.heap.size w w' := by
  have hF' := answers_open hF
  go_enter Tryf.func10, Tryf.ntmps10
  go_wp2
  go_ret
  exact ⟨⟨_, rfl⟩, ((Below.refl _ _).alloc (Nat.le_refl _) _).drew⟩

theorem nested_err (F : Interp) (B : Nat) (fv : Value) (d : Int) (w : World) (hF : F.answers w.tape) (hc : w.cell? ⟨B, 2, none⟩ = some (.int .i64 d)) (hz : w.frozen? ⟨B, 2, none⟩ = false)
    (h0 : 100 < d + 1) (h1 : d ≤ 1000000) :
    Calls Tryf.prog 8 #[.pointer (some ⟨B, 0, none⟩), fv] w fun e w' => (∃ a, e = .returned (.tuple #[.agg #[.int .i64 0, .nilFunc, .nilFunc, .nilFunc], .iface 47 (.pointer (some a))])) ∧ Aft B (d + 1) w w' := by
  have hB : B < w.heap.size := World.block_lt_of_cell? w ⟨B, 2, none⟩ hc
  have g0 : -1000000 ≤ d := by omega
  have C3 : Hid (∀ v o1 o2 o3, ((((w.setCell ⟨B, 2, none⟩ v).alloc o1).alloc o2).alloc o3).cell? ⟨B, 2, none⟩ = some v) := by
    intro v o1 o2 o3
    rw [(deep3 (w.setCell ⟨B, 2, none⟩ v) o1 o2 o3).cell (p := ⟨B, 2, none⟩) (by simpa using hB)]
    go_simp
  have Z3 : Hid (∀ v o1 o2 o3, ((((w.setCell ⟨B, 2, none⟩ v).alloc o1).alloc o2).alloc o3).frozen? ⟨B, 2, none⟩ = false) := by
    intro v o1 o2 o3
    rw [(deep3 (w.setCell ⟨B, 2, none⟩ v) o1 o2 o3).frozen (p := ⟨B, 2, none⟩) (by simpa using hB)]
    go_simp
  have HV : Hid (∀ v o1 o2 o3, Below B w ((((w.setCell ⟨B, 2, none⟩ v).alloc o1).alloc o2).alloc o3)) := fun v o1 o2 o3 =>
    (((((Below.refl B w).setCell (Nat.le_refl _) _).alloc (by simp only [World.size_setCell]; omega) _).alloc (by simp only [World.size_setCell, World.size_alloc]; omega) _).alloc (by simp only [World.size_setCell, World.size_alloc]; omega) _)
  go_enter_defers Tryf.func8, Tryf.ntmps8
  go_wp2_with fail
  have a0 : ((((w.setCell ⟨B, 2, none⟩ (.int .i64 (d + 1))).alloc (.cells #[.pointer (some ⟨B, 0, none⟩)] 24)).alloc (.cells #[.int .i64 0, .nilFunc, .nilFunc, .nilFunc] 37)).alloc (.cells #[.iface 3 (.int .i64 100)] 20)).cell? ⟨w.heap.size + 1 + 1, 0, none⟩ = some (.iface 3 (.int .i64 100)) := by go_simp
  have k0 : ((((w.setCell ⟨B, 2, none⟩ (.int .i64 (d + 1))).alloc (.cells #[.pointer (some ⟨B, 0, none⟩)] 24)).alloc (.cells #[.int .i64 0, .nilFunc, .nilFunc, .nilFunc] 37)).alloc (.cells #[.iface 3 (.int .i64 100)] 20)).cell? ⟨w.heap.size + 1, 0, none⟩ = some (.int .i64 0) := by go_simp
  have k1 : ((((w.setCell ⟨B, 2, none⟩ (.int .i64 (d + 1))).alloc (.cells #[.pointer (some ⟨B, 0, none⟩)] 24)).alloc (.cells #[.int .i64 0, .nilFunc, .nilFunc, .nilFunc] 37)).alloc (.cells #[.iface 3 (.int .i64 100)] 20)).cell? ⟨w.heap.size + 1, 1, none⟩ = some .nilFunc := by go_simp
  have k2 : ((((w.setCell ⟨B, 2, none⟩ (.int .i64 (d + 1))).alloc (.cells #[.pointer (some ⟨B, 0, none⟩)] 24)).alloc (.cells #[.int .i64 0, .nilFunc, .nilFunc, .nilFunc] 37)).alloc (.cells #[.iface 3 (.int .i64 100)] 20)).cell? ⟨w.heap.size + 1, 2, none⟩ = some .nilFunc := by go_simp
  have k3 : ((((w.setCell ⟨B, 2, none⟩ (.int .i64 (d + 1))).alloc (.cells #[.pointer (some ⟨B, 0, none⟩)] 24)).alloc (.cells #[.int .i64 0, .nilFunc, .nilFunc, .nilFunc] 37)).alloc (.cells #[.iface 3 (.int .i64 100)] 20)).cell? ⟨w.heap.size + 1, 3, none⟩ = some .nilFunc := by go_simp
  have f0 : ∀ i, ((((w.setCell ⟨B, 2, none⟩ (.int .i64 (d + 1))).alloc (.cells #[.pointer (some ⟨B, 0, none⟩)] 24)).alloc (.cells #[.int .i64 0, .nilFunc, .nilFunc, .nilFunc] 37)).alloc (.cells #[.iface 3 (.int .i64 100)] 20)).frozen? ⟨w.heap.size + 1, i, none⟩ = false := by intro i; go_simp
  have bc := C3.out (.int .i64 (d + 1)) (.cells #[.pointer (some ⟨B, 0, none⟩)] 24) (.cells #[.int .i64 0, .nilFunc, .nilFunc, .nilFunc] 37) (.cells #[.iface 3 (.int .i64 100)] 20)
  have bz := Z3.out (.int .i64 (d + 1)) (.cells #[.pointer (some ⟨B, 0, none⟩)] 24) (.cells #[.int .i64 0, .nilFunc, .nilFunc, .nilFunc] 37) (.cells #[.iface 3 (.int .i64 100)] 20)
  have bV := HV.out (.int .i64 (d + 1)) (.cells #[.pointer (some ⟨B, 0, none⟩)] 24) (.cells #[.int .i64 0, .nilFunc, .nilFunc, .nilFunc] 37) (.cells #[.iface 3 (.int .i64 100)] 20)
  have sV : ((((w.setCell ⟨B, 2, none⟩ (.int .i64 (d + 1))).alloc (.cells #[.pointer (some ⟨B, 0, none⟩)] 24)).alloc (.cells #[.int .i64 0, .nilFunc, .nilFunc, .nilFunc] 37)).alloc (.cells #[.iface 3 (.int .i64 100)] 20)).heap.size = w.heap.size + 3 := by simp only [World.size_setCell, World.size_alloc]
  generalize ((((w.setCell ⟨B, 2, none⟩ (.int .i64 (d + 1))).alloc (.cells #[.pointer (some ⟨B, 0, none⟩)] 24)).alloc (.cells #[.int .i64 0, .nilFunc, .nilFunc, .nilFunc] 37)).alloc (.cells #[.iface 3 (.int .i64 100)] 20)) = V at *
  refine (errorf_calls F _ V (by rw [bV.tape]; exact hF) a0).mono ?_
  rintro e w1 ⟨⟨a, rfl⟩, hb⟩
  have m0 := (hb.cell (p := ⟨w.heap.size + 1, 0, none⟩) (by rw [sV]; simp)).trans k0
  have m1 := (hb.cell (p := ⟨w.heap.size + 1, 1, none⟩) (by rw [sV]; simp)).trans k1
  have m2 := (hb.cell (p := ⟨w.heap.size + 1, 2, none⟩) (by rw [sV]; simp)).trans k2
  have m3 := (hb.cell (p := ⟨w.heap.size + 1, 3, none⟩) (by rw [sV]; simp)).trans k3
  have mf : ∀ i, w1.frozen? ⟨w.heap.size + 1, i, none⟩ = false := fun i => (hb.frozen (p := ⟨w.heap.size + 1, i, none⟩) (by rw [sV]; simp)).trans (f0 i)
  have mb := (hb.cell (p := ⟨B, 2, none⟩) (by rw [sV]; simp; omega)).trans bc
  have mz := (hb.frozen (p := ⟨B, 2, none⟩) (by rw [sV]; simp; omega)).trans bz
  have mB : Below B w w1 := bV.trans (hb.mono (by rw [sV]; omega))
  have hAB : ¬ w.heap.size + 1 = B := by omega
  have hBA : ¬ B = w.heap.size + 1 := by omega
  have gB : B ≤ w.heap.size + 1 := by omega
  generalize w.heap.size + 1 = A at *
  clear k0 k1 k2 k3 f0 bc bz bV sV a0 C3 Z3 HV hb
  go_wp2_with fail
  refine ⟨_, results8_at _ A 0 _ _ rfl rfl (by go_simp) (by go_simp) (by go_simp) (by go_simp), ⟨_, rfl⟩, ?_, ?_, ?_⟩
  · exact (((mB.setCell gB _).setCell gB _).setCell gB _).setCell gB _
  · go_simp
  · go_simp

theorem depth_calls (B : Nat) (x : Int) (w : World) (hc : w.cell? ⟨B, 2, none⟩ = some (.int .i64 x)) :
    Calls Tryf.prog 7 #[.pointer (some ⟨B, 0, none⟩)] w fun e w' => e = .returned (.int .i64 x) ∧ w' = w := by
  go_enter Tryf.func7, Tryf.ntmps7
  go_wp2
  go_ret
  exact ⟨rfl, rfl⟩

theorem bytes4 (d : Int) (a : Option Addr) (la ca : Nat) (w : World) :
    Calls Tryf.prog 4 #[.int .i64 d, .slice a la ca] w fun e w' => e = .returned (.bool (decide (la ≤ 1048576))) ∧ w' = w := by
  by_cases h1 : la ≤ 1048576
  · have g1 : (la : Int) ≤ 1048576 := by omega
    go_enter Tryf.func4, Tryf.ntmps4
    go_wp2
    go_ret
    exact ⟨by simp [h1], rfl⟩
  · have g1 : (1048576 : Int) < (la : Int) := by omega
    go_enter Tryf.func4, Tryf.ntmps4
    go_wp2
    go_ret
    exact ⟨by simp [h1], rfl⟩

theorem new_calls (d : Int) (w : World) :
    Calls Tryf.prog 5 #[.int .i64 d] w fun e w' => e = .returned (.pointer (some ⟨w.heap.size, 0, none⟩)) ∧ Below w.heap.size w w' ∧ w'.cell? ⟨w.heap.size, 2, none⟩ = some (.int .i64 d) ∧ w'.frozen? ⟨w.heap.size, 2, none⟩ = false := by
  go_enter Tryf.func5, Tryf.ntmps5
  go_wp2
  go_ret
  refine ⟨rfl, (Below.refl _ _).alloc (Nat.le_refl _) _, by go_simp, by go_simp⟩

theorem zznested_ok (B : Nat) (d k : Int) (w : World) (hc : w.cell? ⟨B, 2, none⟩ = some (.int .i64 d)) (hz : w.frozen? ⟨B, 2, none⟩ = false) (h0 : 0 ≤ d) (h1 : d + 1 ≤ 100) :
    Calls Tryf.prog 6 #[.pointer (some ⟨B, 0, none⟩), .int .i64 k] w fun e w' => e = .returned (.tuple #[.int .i64 k, .bool false]) ∧ Aft B d w w' := by
  have hmf : ∀ (fn : Fn) (first cap : Array Value) (w : World), (Instr.makeFunc fn first cap).run Tryf.prog w = .ok (.func fn first cap) w := fun _ _ _ _ => rfl
  have hB : B < w.heap.size := World.block_lt_of_cell? w ⟨B, 2, none⟩ hc
  go_enter Tryf.func6, Tryf.ntmps6
  go_wp2_with fail
  refine (nested_ok B w.heap.size d k _ (by go_simp) (by go_simp) (by go_simp) (by omega) h0 h1).mono ?_
  rintro e w1 ⟨rfl, hb, hc1, hz1⟩
  replace hb := ((Below.refl B w).alloc (Nat.le_of_lt hB) _).trans hb
  have hB1 : B < w1.heap.size := World.block_lt_of_cell? w1 ⟨B, 2, none⟩ hc1
  go_wp2_with fail
  have q0 : (w1.alloc (.cells #[.int .i64 k, .nilFunc, .nilFunc, .nilFunc] 37)).cell? ⟨w1.heap.size, 0, none⟩ = some (.int .i64 k) := by go_simp
  have q1 : (w1.alloc (.cells #[.int .i64 k, .nilFunc, .nilFunc, .nilFunc] 37)).cell? ⟨B, 2, none⟩ = some (.int .i64 d) := by go_simp
  have q2 : (w1.alloc (.cells #[.int .i64 k, .nilFunc, .nilFunc, .nilFunc] 37)).frozen? ⟨B, 2, none⟩ = false := by go_simp
  have q3 := hb.alloc (Nat.le_of_lt hB1) (.cells #[.int .i64 k, .nilFunc, .nilFunc, .nilFunc] 37)
  generalize w1.heap.size = A at *
  generalize w1.alloc (.cells #[.int .i64 k, .nilFunc, .nilFunc, .nilFunc] 37) = w2 at *
  clear hb hc1 hz1 hc hz hmf hB hB1
  go_quiet (fail)
  go_wp2_with fail
  go_ret2
  exact ⟨rfl, below_drewN q3 _, q1, q2⟩

theorem zznested_err (F : Interp) (B : Nat) (d k : Int) (w : World) (hF : F.answers w.tape) (hc : w.cell? ⟨B, 2, none⟩ = some (.int .i64 d)) (hz : w.frozen? ⟨B, 2, none⟩ = false) (h0 : 100 < d + 1) (h1 : d ≤ 1000000) :
    Calls Tryf.prog 6 #[.pointer (some ⟨B, 0, none⟩), .int .i64 k] w fun e w' => e = .returned (.tuple #[.int .i64 0, .bool true]) ∧ Aft B (d + 1) w w' := by
  have hmf : ∀ (fn : Fn) (first cap : Array Value) (w : World), (Instr.makeFunc fn first cap).run Tryf.prog w = .ok (.func fn first cap) w := fun _ _ _ _ => rfl
  have hB : B < w.heap.size := World.block_lt_of_cell? w ⟨B, 2, none⟩ hc
  go_enter Tryf.func6, Tryf.ntmps6
  go_wp2_with fail
  refine (nested_err F B _ d (w.alloc (.cells #[.int .i64 k] 3)) hF (by go_simp) (by go_simp) h0 h1).mono ?_
  rintro e w1 ⟨⟨a, rfl⟩, hb, hc1, hz1⟩
  replace hb := ((Below.refl B w).alloc (Nat.le_of_lt hB) _).trans hb
  have hB1 : B < w1.heap.size := World.block_lt_of_cell? w1 ⟨B, 2, none⟩ hc1
  go_wp2_with fail
  have q0 : (w1.alloc (.cells #[.int .i64 0, .nilFunc, .nilFunc, .nilFunc] 37)).cell? ⟨w1.heap.size, 0, none⟩ = some (.int .i64 0) := by go_simp
  have q1 : (w1.alloc (.cells #[.int .i64 0, .nilFunc, .nilFunc, .nilFunc] 37)).cell? ⟨B, 2, none⟩ = some (.int .i64 (d + 1)) := by go_simp
  have q2 : (w1.alloc (.cells #[.int .i64 0, .nilFunc, .nilFunc, .nilFunc] 37)).frozen? ⟨B, 2, none⟩ = false := by go_simp
  have q3 := hb.alloc (Nat.le_of_lt hB1) (.cells #[.int .i64 0, .nilFunc, .nilFunc, .nilFunc] 37)
  generalize w1.heap.size = A at *
  generalize w1.alloc (.cells #[.int .i64 0, .nilFunc, .nilFunc, .nilFunc] 37) = w2 at *
  clear hb hc1 hz1 hc hz hmf hB hB1 hF
  go_quiet (fail)
  go_wp2_with fail
  go_ret2
  exact ⟨rfl, below_drewN q3 _, q1, q2⟩

end Go.Proofs.Qxb6613690aFmt
