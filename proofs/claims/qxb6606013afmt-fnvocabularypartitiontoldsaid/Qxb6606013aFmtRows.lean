/-
  No cell of these rows narrows 'for every input' (looked for: loops, veiled, ifaces, maps, wideKeys, modest, calm, conditions, laid).
  DERIVED. THE GIVEN ROWS OF THIS SEAT. 1 by the template 'for every input the law returns true; each argument reads behind the call as it read before'; 0 by the template 'total and deterministic' (their statements: Qxb6606013aFmtTotals.lean).
  GIVEN WITH THE SEED: the statements are not yours to turn. If you find one false, say at which input.
  Laid BY PROGRAM, IN A SANDBOX (cutbox-rows.mjs): the forced cells as the released guide's own fill.sh prints them over the translation 0b783460745bea2f… (all of the seat's roots in one cut). By AI agents, Wed Nov 11 2026. No macro, syntax, notation, axiom, sorry.
-/
import Derived.Test.Qxb6606013aFmtChecked
import GoSem.Claim
import GoSem.ClaimJoined
import GoSem.ClaimMapViews
import Derived.JoinedTies
import Derived.KernelRfl
namespace Go.Proofs.Qxb6606013aFmt
/- THE CELL 'sum', in the pinned program and in every row, IS THE sha256 OF THE DUMP (.gsa) THAT Qxb6606013aFmtProg.lean LOADS. Nothing in Lean hashes anything: it is a label: what it is worth is what the hold of that sum in a sandbox is worth. -/
noncomputable def Tryf.pinned : Pinned := { name := "qxb6606013afmt", sum := "0b783460745bea2f2bf8d8f2114d7f196584e59b250692c7dcbbf0d24876c522", checked := Tryf.checked }
namespace Rows
def none {H : Type} : Left H := { results := [], args := [] }

/-- 'zzlaws_pkg_engine_b1.FnVocabularyPartition': WHATEVER THE INPUT: true; the input reads as it did. -/
def fnVocabularyPartitionSpec : ChangeSpec := { name := "fnVocabularyPartition", fn := fun _ => fun
  | [d] => { results := [.lit (.bool true)], args := [d] }
  | _ => none }
def fnVocabularyPartitionRow : OpenClaim := { program := "qxb6606013afmt", sum := "0b783460745bea2f2bf8d8f2114d7f196584e59b250692c7dcbbf0d24876c522", func := "example.com/coordinal/coordinal/zzlaws_pkg_engine_b1.FnVocabularyPartition", spec := "fnVocabularyPartition", stops := ["fmt.errorf"], inPlace := ["fmt.errorf"], apart := false }
/-- NO THEOREM (fmt's text is open here; it may be false): for the released tool's asking of the row's closed facts alone. THE STATEMENT IS 'FnVocabularyPartitionToldSaid' (Qxb6606013aFmtCards.lean). -/
def FnVocabularyPartitionFormAsk : Prop := fnVocabularyPartitionRow.holds Tryf.pinned (OpenSpec.ofChange fnVocabularyPartitionSpec)

/-- ITS FALSE NEIGHBOUR: 'it returns false'. Refute it at one input. -/
def fnVocabularyPartitionWrong : ChangeSpec := { name := "fnVocabularyPartition", fn := fun _ => fun
  | [d] => { results := [.lit (.bool false)], args := [d] }
  | _ => none }
def FnVocabularyPartitionWrongFormAsk : Prop := fnVocabularyPartitionRow.holds Tryf.pinned (OpenSpec.ofChange fnVocabularyPartitionWrong)

end Rows
end Go.Proofs.Qxb6606013aFmt
