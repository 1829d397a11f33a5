/-
  DERIVED. GIVEN WITH THE SEED: THE CARDS: each row of Qxb6608526aDoorRows.lean that lists a variable, with what it lists TIED to the program's text (the seventh form; the later family's looks); each row that meets fmt, with fmt's text TOLD by the authors' own Lean function (tested against real Go, not proved from fmt's source: count such statements apart). THE CARD IS WHAT COUNTS. Prove the row's statement (the work); the ties are given (Qxb6608526aDoorTie.lean); close each card by the builder's one call (the guide's Derived/Test/ToyasCard.lean, 'card_holds'). Laid BY PROGRAM, IN A SANDBOX (cutbox-door.mjs). By AI agents, Wed Nov 11 2026. No macro, syntax, notation, axiom, sorry.
-/
import Derived.Test.Qxb6608526aDoorRows
import GoSem.ClaimSeven
namespace Go.Proofs.Qxb6608526aDoor
namespace Rows

/-- THE TIED CARD OF 'zzlaws_internal_xmlstream_b1.FnSpillStackTruncateTwiceThenPush'. -/
def fnSpillStackTruncateTwiceThenPushCard : Claim7 := { stood := { row := fnSpillStackTruncateTwiceThenPushRow, standIns := [], harness := (true, "fcf7e6b4341a49cfb0bc7f04c5b8160ba0d40a5f0006d4e813145c2a2d5e5b11"), looks := true }, kinds := [], alts := [], laidByText := true, laidKinds := [.sentinel, .sentinel], laidTests := true, laidLooks := .later }
def FnSpillStackTruncateTwiceThenPushCardSaid : Prop := Claim7.holds Tryd.pinned (.plain (OpenSpec.ofChange fnSpillStackTruncateTwiceThenPushSpec)) fnSpillStackTruncateTwiceThenPushCard
end Rows
end Go.Proofs.Qxb6608526aDoor
