/-
  NARROWER THAN 'FOR EVERY INPUT', by the rows' own cells (each row's printed sentence says how): FnSpillStackTruncateTwiceThenPush: laid.
  DERIVED. THE GIVEN ROWS OF THIS SEAT. 1 by the template 'for every input the law returns true; each argument reads behind the call as it read before'; 0 by the template 'total and deterministic' (their statements: Qxb6608526aDoorTotals.lean).
  GIVEN WITH THE SEED: the statements are not yours to turn. If you find one false, say at which input.
  Laid BY PROGRAM, IN A SANDBOX (cutbox-rows.mjs): the forced cells as the released guide's own fill.sh prints them over the translation d2f8e09fe94e344c… (all of the seat's roots in one cut). By AI agents, Wed Nov 11 2026. No macro, syntax, notation, axiom, sorry.
-/
import Derived.Test.Qxb6608526aDoorChecked
import GoSem.Claim
import GoSem.ClaimJoined
import GoSem.ClaimMapViews
import Derived.JoinedTies
import Derived.KernelRfl
namespace Go.Proofs.Qxb6608526aDoor
/- THE CELL 'sum', in the pinned program and in every row, IS THE sha256 OF THE DUMP (.gsa) THAT Qxb6608526aDoorProg.lean LOADS. Nothing in Lean hashes anything: it is a label: what it is worth is what the hold of that sum in a sandbox is worth. -/
noncomputable def Tryd.pinned : Pinned := { name := "qxb6608526adoor", sum := "d2f8e09fe94e344c7b925d5128c79107581398b63119cacc7faa6cd2f1191c46", checked := Tryd.checked }
namespace Rows
def none {H : Type} : Left H := { results := [], args := [] }

/- WHAT THE LISTED PACKAGE-LEVEL VARIABLES READ AS WHEN THE CALL BEGINS. Each datum BY PROGRAM (the guide's laid-datum.mjs) off the statement by which the dump's own 'gosem.cut.vars' lays the variable. In a bare row this is a premise. The card (Qxb6608526aDoorCards.lean) ties it to the program's text. -/
def laid_io_EOF {H : Type} : DataW H := .iface "*errors.errorString" (.ptr (.agg [.lit (.string [69, 79, 70])]))
def laid_io_ErrUnexpectedEOF {H : Type} : DataW H := .iface "*errors.errorString" (.ptr (.agg [.lit (.string [117, 110, 101, 120, 112, 101, 99, 116, 101, 100, 32, 69, 79, 70])]))

/-- 'zzlaws_internal_xmlstream_b1.FnSpillStackTruncateTwiceThenPush': WHATEVER THE INPUT: true; the input reads as it did. -/
def fnSpillStackTruncateTwiceThenPushSpec : ChangeSpec := { name := "fnSpillStackTruncateTwiceThenPush", fn := fun _ => fun
  | [d1, d2, d3, d4] => { results := [.lit (.bool true)], args := [d1, d2, d3, d4] }
  | _ => none }
def fnSpillStackTruncateTwiceThenPushRow : OpenClaim := { program := "qxb6608526adoor", sum := "d2f8e09fe94e344c7b925d5128c79107581398b63119cacc7faa6cd2f1191c46", func := "example.com/winnow/winnow/zzlaws_internal_xmlstream_b1.FnSpillStackTruncateTwiceThenPush", spec := "fnSpillStackTruncateTwiceThenPush", unfollowed := true, recurses := true, named := ["io.EOF", "io.ErrUnexpectedEOF"], apart := false, laid := [("io.EOF", laid_io_EOF), ("io.ErrUnexpectedEOF", laid_io_ErrUnexpectedEOF)] }
def FnSpillStackTruncateTwiceThenPushSaid : Prop := fnSpillStackTruncateTwiceThenPushRow.holds Tryd.pinned (OpenSpec.ofChange fnSpillStackTruncateTwiceThenPushSpec)

/-- ITS FALSE NEIGHBOUR: 'it returns false'. Refute it at one input. -/
def fnSpillStackTruncateTwiceThenPushWrong : ChangeSpec := { name := "fnSpillStackTruncateTwiceThenPush", fn := fun _ => fun
  | [d1, d2, d3, d4] => { results := [.lit (.bool false)], args := [d1, d2, d3, d4] }
  | _ => none }
def FnSpillStackTruncateTwiceThenPushWrongFalsely : Prop := fnSpillStackTruncateTwiceThenPushRow.holds Tryd.pinned (OpenSpec.ofChange fnSpillStackTruncateTwiceThenPushWrong)

end Rows
end Go.Proofs.Qxb6608526aDoor
