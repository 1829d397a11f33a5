/-
  DERIVED. GIVEN WITH THE SEED: THE CARDS: each row of Qxb6613690aFmtRows.lean that lists a variable, with what it lists TIED to the program's text (the seventh form; the later family's looks); each row that meets fmt, with fmt's text TOLD by the authors' own Lean function (tested against real Go, not proved from fmt's source: count such statements apart). THE CARD IS WHAT COUNTS. Prove the row's statement (the work); the ties are given (Qxb6613690aFmtTie.lean); close each card by the builder's one call (the guide's Derived/Test/ToyasCard.lean, 'card_holds'). Laid BY PROGRAM, IN A SANDBOX (cutbox-door.mjs). By AI agents, Wed Nov 11 2026. No macro, syntax, notation, axiom, sorry.
-/
import Derived.Test.Qxb6613690aFmtRows
import GoSem.ClaimSeven
namespace Go.Proofs.Qxb6613690aFmt
namespace Rows

/-- THE TOLD CARD OF 'zzlaws_internal_router_b1.FnNestedScriptAgainstLimit'. -/
def fnNestedScriptAgainstLimitCard : Claim7 := { stood := { row := fnNestedScriptAgainstLimitRow, standIns := [], harness := (true, "74ac54a21c2c60e2bc5e3834bcd2ddfd3a3054c1a8247cf2a9daa1268450e8c6"), looks := false }, told := true, goes := false }
def FnNestedScriptAgainstLimitToldSaid : Prop := Claim7.holds Tryf.pinned (.plain (OpenSpec.ofChange fnNestedScriptAgainstLimitSpec)) fnNestedScriptAgainstLimitCard
/-- ITS FALSE NEIGHBOUR. Refute it at one input. -/
def FnNestedScriptAgainstLimitToldWrongFalsely : Prop := Claim7.holds Tryf.pinned (.plain (OpenSpec.ofChange fnNestedScriptAgainstLimitWrong)) fnNestedScriptAgainstLimitCard
end Rows
end Go.Proofs.Qxb6613690aFmt
