/-
  No cell of these rows narrows 'for every input' (looked for: loops, veiled, ifaces, maps, wideKeys, modest, calm, conditions, laid).
  DERIVED. THE GIVEN ROWS OF THIS SEAT. 1 by the template 'for every input the law returns true; each argument reads behind the call as it read before'; 0 by the template 'total and deterministic' (their statements: Qxb6613690aFmtTotals.lean).
  GIVEN WITH THE SEED: the statements are not yours to turn. If you find one false, say at which input.
  Laid BY PROGRAM, IN A SANDBOX (cutbox-rows.mjs): the forced cells as the released guide's own fill.sh prints them over the translation a90d849832a76ee4… (all of the seat's roots in one cut). By AI agents, Wed Nov 11 2026. No macro, syntax, notation, axiom, sorry.
-/
import Derived.Test.Qxb6613690aFmtChecked
import GoSem.Claim
import GoSem.ClaimJoined
import GoSem.ClaimMapViews
import Derived.JoinedTies
import Derived.KernelRfl
namespace Go.Proofs.Qxb6613690aFmt
/- THE CELL 'sum', in the pinned program and in every row, IS THE sha256 OF THE DUMP (.gsa) THAT Qxb6613690aFmtProg.lean LOADS. Nothing in Lean hashes anything: it is a label: what it is worth is what the hold of that sum in a sandbox is worth. -/
noncomputable def Tryf.pinned : Pinned := { name := "qxb6613690afmt", sum := "a90d849832a76ee44d71da5b5be42fe4c83d0aa0fe00d79860f90571c5a18cf5", checked := Tryf.checked }
namespace Rows
def none {H : Type} : Left H := { results := [], args := [] }

/-- 'zzlaws_internal_router_b1.FnNestedScriptAgainstLimit': WHATEVER THE INPUT: true; the input reads as it did. -/
def fnNestedScriptAgainstLimitSpec : ChangeSpec := { name := "fnNestedScriptAgainstLimit", fn := fun _ => fun
  | [d1, d2] => { results := [.lit (.bool true)], args := [d1, d2] }
  | _ => none }
def fnNestedScriptAgainstLimitRow : OpenClaim := { program := "qxb6613690afmt", sum := "a90d849832a76ee44d71da5b5be42fe4c83d0aa0fe00d79860f90571c5a18cf5", func := "example.com/nodepulse/nodepulse/zzlaws_internal_router_b1.FnNestedScriptAgainstLimit", spec := "fnNestedScriptAgainstLimit", stops := ["fmt.errorf"], inPlace := ["fmt.errorf"], unfollowed := true, recurses := true, apart := false }
/-- NO THEOREM (fmt's text is open here; it may be false): for the released tool's asking of the row's closed facts alone. THE STATEMENT IS 'FnNestedScriptAgainstLimitToldSaid' (Qxb6613690aFmtCards.lean). -/
def FnNestedScriptAgainstLimitFormAsk : Prop := fnNestedScriptAgainstLimitRow.holds Tryf.pinned (OpenSpec.ofChange fnNestedScriptAgainstLimitSpec)

/-- ITS FALSE NEIGHBOUR: 'it returns false'. Refute it at one input. -/
def fnNestedScriptAgainstLimitWrong : ChangeSpec := { name := "fnNestedScriptAgainstLimit", fn := fun _ => fun
  | [d1, d2] => { results := [.lit (.bool false)], args := [d1, d2] }
  | _ => none }
def FnNestedScriptAgainstLimitWrongFormAsk : Prop := fnNestedScriptAgainstLimitRow.holds Tryf.pinned (OpenSpec.ofChange fnNestedScriptAgainstLimitWrong)

end Rows
end Go.Proofs.Qxb6613690aFmt
