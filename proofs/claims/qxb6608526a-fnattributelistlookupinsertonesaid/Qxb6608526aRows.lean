/-
  No cell of these rows narrows 'for every input' (looked for: loops, veiled, ifaces, maps, wideKeys, modest, calm, conditions, laid).
  DERIVED. THE GIVEN ROWS OF THIS SEAT. 5 by the template 'for every input the law returns true; each argument reads behind the call as it read before'; 0 by the template 'total and deterministic' (their statements: Qxb6608526aTotals.lean).
  GIVEN WITH THE SEED: the statements are not yours to turn. If you find one false, say at which input.
  Laid BY PROGRAM, IN A SANDBOX (cutbox-rows.mjs): the forced cells as the released guide's own fill.sh prints them over the translation 2e0c99360f324546… (all of the seat's roots in one cut). By AI agents, Wed Nov 11 2026. No macro, syntax, notation, axiom, sorry.
-/
import Derived.Test.Qxb6608526aChecked
import GoSem.Claim
import GoSem.ClaimJoined
import GoSem.ClaimMapViews
import Derived.JoinedTies
import Derived.KernelRfl
namespace Go.Proofs.Qxb6608526a
/- THE CELL 'sum', in the pinned program and in every row, IS THE sha256 OF THE DUMP (.gsa) THAT Qxb6608526aProg.lean LOADS. Nothing in Lean hashes anything: it is a label: what it is worth is what the hold of that sum in a sandbox is worth. -/
noncomputable def Try.pinned : Pinned := { name := "qxb6608526a", sum := "2e0c99360f324546425c39ca3ad6fe5586067d13a182b9977a29a27344427064", checked := Try.checked }
namespace Rows
def none {H : Type} : Left H := { results := [], args := [] }

/-- 'zzlaws_internal_xmlstream_b1.FnWithinBoundPerByteRead': WHATEVER THE INPUT: true; the input reads as it did. -/
def fnWithinBoundPerByteReadSpec : ChangeSpec := { name := "fnWithinBoundPerByteRead", fn := fun _ => fun
  | [d1, d2] => { results := [.lit (.bool true)], args := [d1, d2] }
  | _ => none }
def fnWithinBoundPerByteReadRow : OpenClaim := { program := "qxb6608526a", sum := "2e0c99360f324546425c39ca3ad6fe5586067d13a182b9977a29a27344427064", func := "example.com/winnow/winnow/zzlaws_internal_xmlstream_b1.FnWithinBoundPerByteRead", spec := "fnWithinBoundPerByteRead", apart := false }
def FnWithinBoundPerByteReadSaid : Prop := fnWithinBoundPerByteReadRow.holds Try.pinned (OpenSpec.ofChange fnWithinBoundPerByteReadSpec)

/-- ITS FALSE NEIGHBOUR: 'it returns false'. Refute it at one input. -/
def fnWithinBoundPerByteReadWrong : ChangeSpec := { name := "fnWithinBoundPerByteRead", fn := fun _ => fun
  | [d1, d2] => { results := [.lit (.bool false)], args := [d1, d2] }
  | _ => none }
def FnWithinBoundPerByteReadWrongFalsely : Prop := fnWithinBoundPerByteReadRow.holds Try.pinned (OpenSpec.ofChange fnWithinBoundPerByteReadWrong)

/-- 'zzlaws_internal_xmlstream_b1.FnWithinBoundEdge': WHATEVER THE INPUT: true; the input reads as it did. -/
def fnWithinBoundEdgeSpec : ChangeSpec := { name := "fnWithinBoundEdge", fn := fun _ => fun
  | [d1, d2] => { results := [.lit (.bool true)], args := [d1, d2] }
  | _ => none }
def fnWithinBoundEdgeRow : OpenClaim := { program := "qxb6608526a", sum := "2e0c99360f324546425c39ca3ad6fe5586067d13a182b9977a29a27344427064", func := "example.com/winnow/winnow/zzlaws_internal_xmlstream_b1.FnWithinBoundEdge", spec := "fnWithinBoundEdge", apart := false }
def FnWithinBoundEdgeSaid : Prop := fnWithinBoundEdgeRow.holds Try.pinned (OpenSpec.ofChange fnWithinBoundEdgeSpec)

/-- ITS FALSE NEIGHBOUR: 'it returns false'. Refute it at one input. -/
def fnWithinBoundEdgeWrong : ChangeSpec := { name := "fnWithinBoundEdge", fn := fun _ => fun
  | [d1, d2] => { results := [.lit (.bool false)], args := [d1, d2] }
  | _ => none }
def FnWithinBoundEdgeWrongFalsely : Prop := fnWithinBoundEdgeRow.holds Try.pinned (OpenSpec.ofChange fnWithinBoundEdgeWrong)

/-- 'zzlaws_internal_xmlstream_b1.FnAttributeListLookupInsertOne': WHATEVER THE INPUT: true; the input reads as it did. -/
def fnAttributeListLookupInsertOneSpec : ChangeSpec := { name := "fnAttributeListLookupInsertOne", fn := fun _ => fun
  | [d1, d2, d3, d4, d5, d6, d7] => { results := [.lit (.bool true)], args := [d1, d2, d3, d4, d5, d6, d7] }
  | _ => none }
def fnAttributeListLookupInsertOneRow : OpenClaim := { program := "qxb6608526a", sum := "2e0c99360f324546425c39ca3ad6fe5586067d13a182b9977a29a27344427064", func := "example.com/winnow/winnow/zzlaws_internal_xmlstream_b1.FnAttributeListLookupInsertOne", spec := "fnAttributeListLookupInsertOne", inPlace := ["internal/bytealg.abigen_runtime_cmpstring"], unfollowed := true, recurses := true, apart := false }
def FnAttributeListLookupInsertOneSaid : Prop := fnAttributeListLookupInsertOneRow.holds Try.pinned (OpenSpec.ofChange fnAttributeListLookupInsertOneSpec)

/-- ITS FALSE NEIGHBOUR: 'it returns false'. Refute it at one input. -/
def fnAttributeListLookupInsertOneWrong : ChangeSpec := { name := "fnAttributeListLookupInsertOne", fn := fun _ => fun
  | [d1, d2, d3, d4, d5, d6, d7] => { results := [.lit (.bool false)], args := [d1, d2, d3, d4, d5, d6, d7] }
  | _ => none }
def FnAttributeListLookupInsertOneWrongFalsely : Prop := fnAttributeListLookupInsertOneRow.holds Try.pinned (OpenSpec.ofChange fnAttributeListLookupInsertOneWrong)

/-- 'zzlaws_internal_xmlstream_b1.FnAttributeListLookupSplit': WHATEVER THE INPUT: true; the input reads as it did. -/
def fnAttributeListLookupSplitSpec : ChangeSpec := { name := "fnAttributeListLookupSplit", fn := fun _ => fun
  | [d1, d2, d3, d4, d5] => { results := [.lit (.bool true)], args := [d1, d2, d3, d4, d5] }
  | _ => none }
def fnAttributeListLookupSplitRow : OpenClaim := { program := "qxb6608526a", sum := "2e0c99360f324546425c39ca3ad6fe5586067d13a182b9977a29a27344427064", func := "example.com/winnow/winnow/zzlaws_internal_xmlstream_b1.FnAttributeListLookupSplit", spec := "fnAttributeListLookupSplit", inPlace := ["internal/bytealg.abigen_runtime_cmpstring"], unfollowed := true, recurses := true, apart := false }
def FnAttributeListLookupSplitSaid : Prop := fnAttributeListLookupSplitRow.holds Try.pinned (OpenSpec.ofChange fnAttributeListLookupSplitSpec)

/-- ITS FALSE NEIGHBOUR: 'it returns false'. Refute it at one input. -/
def fnAttributeListLookupSplitWrong : ChangeSpec := { name := "fnAttributeListLookupSplit", fn := fun _ => fun
  | [d1, d2, d3, d4, d5] => { results := [.lit (.bool false)], args := [d1, d2, d3, d4, d5] }
  | _ => none }
def FnAttributeListLookupSplitWrongFalsely : Prop := fnAttributeListLookupSplitRow.holds Try.pinned (OpenSpec.ofChange fnAttributeListLookupSplitWrong)

/-- 'zzlaws_internal_xmlstream_b1.FnSpillStackTruncateAnyOffset': WHATEVER THE INPUT: true; the input reads as it did. -/
def fnSpillStackTruncateAnyOffsetSpec : ChangeSpec := { name := "fnSpillStackTruncateAnyOffset", fn := fun _ => fun
  | [d1, d2, d3] => { results := [.lit (.bool true)], args := [d1, d2, d3] }
  | _ => none }
def fnSpillStackTruncateAnyOffsetRow : OpenClaim := { program := "qxb6608526a", sum := "2e0c99360f324546425c39ca3ad6fe5586067d13a182b9977a29a27344427064", func := "example.com/winnow/winnow/zzlaws_internal_xmlstream_b1.FnSpillStackTruncateAnyOffset", spec := "fnSpillStackTruncateAnyOffset", unfollowed := true, recurses := true, apart := false }
def FnSpillStackTruncateAnyOffsetSaid : Prop := fnSpillStackTruncateAnyOffsetRow.holds Try.pinned (OpenSpec.ofChange fnSpillStackTruncateAnyOffsetSpec)

/-- ITS FALSE NEIGHBOUR: 'it returns false'. Refute it at one input. -/
def fnSpillStackTruncateAnyOffsetWrong : ChangeSpec := { name := "fnSpillStackTruncateAnyOffset", fn := fun _ => fun
  | [d1, d2, d3] => { results := [.lit (.bool false)], args := [d1, d2, d3] }
  | _ => none }
def FnSpillStackTruncateAnyOffsetWrongFalsely : Prop := fnSpillStackTruncateAnyOffsetRow.holds Try.pinned (OpenSpec.ofChange fnSpillStackTruncateAnyOffsetWrong)

end Rows
end Go.Proofs.Qxb6608526a
