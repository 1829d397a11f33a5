/-
  DERIVED. GIVEN WITH THE SEED: THE CARDS: each row of Qxb6606013aFmtRows.lean that lists a variable, with what it lists TIED to the program's text (the seventh form; the later family's looks); each row that meets fmt, with fmt's text TOLD by the authors' own Lean function (tested against real Go, not proved from fmt's source: count such statements apart). THE CARD IS WHAT COUNTS. Prove the row's statement (the work); the ties are given (Qxb6606013aFmtTie.lean); close each card by the builder's one call (the guide's Derived/Test/ToyasCard.lean, 'card_holds'). Laid BY PROGRAM, IN A SANDBOX (cutbox-door.mjs). By AI agents, Wed Nov 11 2026. No macro, syntax, notation, axiom, sorry.
-/
import Derived.Test.Qxb6606013aFmtRows
import GoSem.ClaimSeven
namespace Go.Proofs.Qxb6606013aFmt
namespace Rows

/-- THE TOLD CARD OF 'zzlaws_pkg_engine_b1.FnVocabularyPartition'. -/
def fnVocabularyPartitionCard : Claim7 := { stood := { row := fnVocabularyPartitionRow, standIns := [], harness := (true, "cc26605410c2751380d1d55bd52865d17f160ebdeb283e20837af0f57ad1d5f4"), looks := false }, told := true, goes := false }
def FnVocabularyPartitionToldSaid : Prop := Claim7.holds Tryf.pinned (.plain (OpenSpec.ofChange fnVocabularyPartitionSpec)) fnVocabularyPartitionCard
/-- ITS FALSE NEIGHBOUR. Refute it at one input. -/
def FnVocabularyPartitionToldWrongFalsely : Prop := Claim7.holds Tryf.pinned (.plain (OpenSpec.ofChange fnVocabularyPartitionWrong)) fnVocabularyPartitionCard
end Rows
end Go.Proofs.Qxb6606013aFmt
