/-
  No cell of these rows narrows 'for every input' (looked for: loops, veiled, ifaces, maps, wideKeys, modest, calm, conditions, laid).
  DERIVED. THE GIVEN ROWS OF THIS SEAT. 3 by the template 'for every input the law returns true; each argument reads behind the call as it read before'; 0 by the template 'total and deterministic' (their statements: Qxb6602416aTotals.lean).
  GIVEN WITH THE SEED: the statements are not yours to turn. If you find one false, say at which input.
  Laid BY PROGRAM, IN A SANDBOX (cutbox-rows.mjs): the forced cells as the released guide's own fill.sh prints them over the translation 2dad377e416cef91… (all of the seat's roots in one cut). By AI agents, Wed Nov 11 2026. No macro, syntax, notation, axiom, sorry.
-/
import Derived.Test.Qxb6602416aChecked
import GoSem.Claim
import GoSem.ClaimJoined
import GoSem.ClaimMapViews
import Derived.JoinedTies
import Derived.KernelRfl
namespace Go.Proofs.Qxb6602416a
/- THE CELL 'sum', in the pinned program and in every row, IS THE sha256 OF THE DUMP (.gsa) THAT Qxb6602416aProg.lean LOADS. Nothing in Lean hashes anything: it is a label: what it is worth is what the hold of that sum in a sandbox is worth. -/
noncomputable def Try.pinned : Pinned := { name := "qxb6602416a", sum := "2dad377e416cef91f810c69b3b0c6443fb87b0b9fc8dd436b6db54a78f0f6a68", checked := Try.checked }
namespace Rows
def none {H : Type} : Left H := { results := [], args := [] }

/-- 'zzlaws_internal_check_b1.FnConflictGraphMatchesLatestWriterModel': WHATEVER THE INPUT: true; the input reads as it did. -/
def fnConflictGraphMatchesLatestWriterModelSpec : ChangeSpec := { name := "fnConflictGraphMatchesLatestWriterModel", fn := fun _ => fun
  | [d1, d2, d3, d4, d5, d6, d7, d8, d9, d10, d11] => { results := [.lit (.bool true)], args := [d1, d2, d3, d4, d5, d6, d7, d8, d9, d10, d11] }
  | _ => none }
def fnConflictGraphMatchesLatestWriterModelRow : OpenClaim := { program := "qxb6602416a", sum := "2dad377e416cef91f810c69b3b0c6443fb87b0b9fc8dd436b6db54a78f0f6a68", func := "example.com/weft/weft/zzlaws_internal_check_b1.FnConflictGraphMatchesLatestWriterModel", spec := "fnConflictGraphMatchesLatestWriterModel", apart := false }
def FnConflictGraphMatchesLatestWriterModelSaid : Prop := fnConflictGraphMatchesLatestWriterModelRow.holds Try.pinned (OpenSpec.ofChange fnConflictGraphMatchesLatestWriterModelSpec)

/-- ITS FALSE NEIGHBOUR: 'it returns false'. Refute it at one input. -/
def fnConflictGraphMatchesLatestWriterModelWrong : ChangeSpec := { name := "fnConflictGraphMatchesLatestWriterModel", fn := fun _ => fun
  | [d1, d2, d3, d4, d5, d6, d7, d8, d9, d10, d11] => { results := [.lit (.bool false)], args := [d1, d2, d3, d4, d5, d6, d7, d8, d9, d10, d11] }
  | _ => none }
def FnConflictGraphMatchesLatestWriterModelWrongFalsely : Prop := fnConflictGraphMatchesLatestWriterModelRow.holds Try.pinned (OpenSpec.ofChange fnConflictGraphMatchesLatestWriterModelWrong)

/-- 'zzlaws_internal_check_b1.FnConflictGraphSerialHistoryIsAcyclic': WHATEVER THE INPUT: true; the input reads as it did. -/
def fnConflictGraphSerialHistoryIsAcyclicSpec : ChangeSpec := { name := "fnConflictGraphSerialHistoryIsAcyclic", fn := fun _ => fun
  | [d1, d2, d3, d4, d5, d6, d7, d8, d9, d10, d11] => { results := [.lit (.bool true)], args := [d1, d2, d3, d4, d5, d6, d7, d8, d9, d10, d11] }
  | _ => none }
def fnConflictGraphSerialHistoryIsAcyclicRow : OpenClaim := { program := "qxb6602416a", sum := "2dad377e416cef91f810c69b3b0c6443fb87b0b9fc8dd436b6db54a78f0f6a68", func := "example.com/weft/weft/zzlaws_internal_check_b1.FnConflictGraphSerialHistoryIsAcyclic", spec := "fnConflictGraphSerialHistoryIsAcyclic", apart := false }
def FnConflictGraphSerialHistoryIsAcyclicSaid : Prop := fnConflictGraphSerialHistoryIsAcyclicRow.holds Try.pinned (OpenSpec.ofChange fnConflictGraphSerialHistoryIsAcyclicSpec)

/-- ITS FALSE NEIGHBOUR: 'it returns false'. Refute it at one input. -/
def fnConflictGraphSerialHistoryIsAcyclicWrong : ChangeSpec := { name := "fnConflictGraphSerialHistoryIsAcyclic", fn := fun _ => fun
  | [d1, d2, d3, d4, d5, d6, d7, d8, d9, d10, d11] => { results := [.lit (.bool false)], args := [d1, d2, d3, d4, d5, d6, d7, d8, d9, d10, d11] }
  | _ => none }
def FnConflictGraphSerialHistoryIsAcyclicWrongFalsely : Prop := fnConflictGraphSerialHistoryIsAcyclicRow.holds Try.pinned (OpenSpec.ofChange fnConflictGraphSerialHistoryIsAcyclicWrong)

/-- 'zzlaws_internal_check_b1.FnConflictGraphEdgesBoundedAndMirrored': WHATEVER THE INPUT: true; the input reads as it did. -/
def fnConflictGraphEdgesBoundedAndMirroredSpec : ChangeSpec := { name := "fnConflictGraphEdgesBoundedAndMirrored", fn := fun _ => fun
  | [d1, d2, d3, d4, d5, d6, d7, d8, d9, d10, d11] => { results := [.lit (.bool true)], args := [d1, d2, d3, d4, d5, d6, d7, d8, d9, d10, d11] }
  | _ => none }
def fnConflictGraphEdgesBoundedAndMirroredRow : OpenClaim := { program := "qxb6602416a", sum := "2dad377e416cef91f810c69b3b0c6443fb87b0b9fc8dd436b6db54a78f0f6a68", func := "example.com/weft/weft/zzlaws_internal_check_b1.FnConflictGraphEdgesBoundedAndMirrored", spec := "fnConflictGraphEdgesBoundedAndMirrored", apart := false }
def FnConflictGraphEdgesBoundedAndMirroredSaid : Prop := fnConflictGraphEdgesBoundedAndMirroredRow.holds Try.pinned (OpenSpec.ofChange fnConflictGraphEdgesBoundedAndMirroredSpec)

/-- ITS FALSE NEIGHBOUR: 'it returns false'. Refute it at one input. -/
def fnConflictGraphEdgesBoundedAndMirroredWrong : ChangeSpec := { name := "fnConflictGraphEdgesBoundedAndMirrored", fn := fun _ => fun
  | [d1, d2, d3, d4, d5, d6, d7, d8, d9, d10, d11] => { results := [.lit (.bool false)], args := [d1, d2, d3, d4, d5, d6, d7, d8, d9, d10, d11] }
  | _ => none }
def FnConflictGraphEdgesBoundedAndMirroredWrongFalsely : Prop := fnConflictGraphEdgesBoundedAndMirroredRow.holds Try.pinned (OpenSpec.ofChange fnConflictGraphEdgesBoundedAndMirroredWrong)

end Rows
end Go.Proofs.Qxb6602416a
