/-
  No cell of these rows narrows 'for every input' (looked for: loops, veiled, ifaces, maps, wideKeys, modest, calm, conditions, laid).
  DERIVED. THE GIVEN ROWS OF THIS SEAT. 3 by the template 'for every input the law returns true; each argument reads behind the call as it read before'; 0 by the template 'total and deterministic' (their statements: Qxb6603622aTotals.lean).
  GIVEN WITH THE SEED: the statements are not yours to turn. If you find one false, say at which input.
  Laid BY PROGRAM, IN A SANDBOX (cutbox-rows.mjs): the forced cells as the released guide's own fill.sh prints them over the translation 09b9f71bc1b479ce… (all of the seat's roots in one cut). By AI agents, Wed Nov 11 2026. No macro, syntax, notation, axiom, sorry.
-/
import Derived.Test.Qxb6603622aChecked
import GoSem.Claim
import GoSem.ClaimJoined
import GoSem.ClaimMapViews
import Derived.JoinedTies
import Derived.KernelRfl
namespace Go.Proofs.Qxb6603622a
/- THE CELL 'sum', in the pinned program and in every row, IS THE sha256 OF THE DUMP (.gsa) THAT Qxb6603622aProg.lean LOADS. Nothing in Lean hashes anything: it is a label: what it is worth is what the hold of that sum in a sandbox is worth. -/
noncomputable def Try.pinned : Pinned := { name := "qxb6603622a", sum := "09b9f71bc1b479ceecfdec933ebf56c5b1e5ecbe96ae193c36c329c5d1351ef1", checked := Try.checked }
namespace Rows
def none {H : Type} : Left H := { results := [], args := [] }

/-- 'zzlaws_jsonobject_b1.FnValueLenIsDirectChildCount': WHATEVER THE INPUT: true; the input reads as it did. -/
def fnValueLenIsDirectChildCountSpec : ChangeSpec := { name := "fnValueLenIsDirectChildCount", fn := fun _ => fun
  | [d1, d2, d3] => { results := [.lit (.bool true)], args := [d1, d2, d3] }
  | _ => none }
def fnValueLenIsDirectChildCountRow : OpenClaim := { program := "qxb6603622a", sum := "09b9f71bc1b479ceecfdec933ebf56c5b1e5ecbe96ae193c36c329c5d1351ef1", func := "example.com/utu/utu/zzlaws_jsonobject_b1.FnValueLenIsDirectChildCount", spec := "fnValueLenIsDirectChildCount", unfollowed := true, recurses := true, apart := false }
def FnValueLenIsDirectChildCountSaid : Prop := fnValueLenIsDirectChildCountRow.holds Try.pinned (OpenSpec.ofChange fnValueLenIsDirectChildCountSpec)

/-- ITS FALSE NEIGHBOUR: 'it returns false'. Refute it at one input. -/
def fnValueLenIsDirectChildCountWrong : ChangeSpec := { name := "fnValueLenIsDirectChildCount", fn := fun _ => fun
  | [d1, d2, d3] => { results := [.lit (.bool false)], args := [d1, d2, d3] }
  | _ => none }
def FnValueLenIsDirectChildCountWrongFalsely : Prop := fnValueLenIsDirectChildCountRow.holds Try.pinned (OpenSpec.ofChange fnValueLenIsDirectChildCountWrong)

/-- 'zzlaws_jsonobject_b1.FnValueLenCountsCoverEveryNode': WHATEVER THE INPUT: true; the input reads as it did. -/
def fnValueLenCountsCoverEveryNodeSpec : ChangeSpec := { name := "fnValueLenCountsCoverEveryNode", fn := fun _ => fun
  | [d1, d2] => { results := [.lit (.bool true)], args := [d1, d2] }
  | _ => none }
def fnValueLenCountsCoverEveryNodeRow : OpenClaim := { program := "qxb6603622a", sum := "09b9f71bc1b479ceecfdec933ebf56c5b1e5ecbe96ae193c36c329c5d1351ef1", func := "example.com/utu/utu/zzlaws_jsonobject_b1.FnValueLenCountsCoverEveryNode", spec := "fnValueLenCountsCoverEveryNode", unfollowed := true, recurses := true, apart := false }
def FnValueLenCountsCoverEveryNodeSaid : Prop := fnValueLenCountsCoverEveryNodeRow.holds Try.pinned (OpenSpec.ofChange fnValueLenCountsCoverEveryNodeSpec)

/-- ITS FALSE NEIGHBOUR: 'it returns false'. Refute it at one input. -/
def fnValueLenCountsCoverEveryNodeWrong : ChangeSpec := { name := "fnValueLenCountsCoverEveryNode", fn := fun _ => fun
  | [d1, d2] => { results := [.lit (.bool false)], args := [d1, d2] }
  | _ => none }
def FnValueLenCountsCoverEveryNodeWrongFalsely : Prop := fnValueLenCountsCoverEveryNodeRow.holds Try.pinned (OpenSpec.ofChange fnValueLenCountsCoverEveryNodeWrong)

/-- 'zzlaws_jsonobject_b1.FnParserOpenGivesAnEmptyValueOfItsKind': WHATEVER THE INPUT: true; the input reads as it did. -/
def fnParserOpenGivesAnEmptyValueOfItsKindSpec : ChangeSpec := { name := "fnParserOpenGivesAnEmptyValueOfItsKind", fn := fun _ => fun
  | [d1, d2, d3] => { results := [.lit (.bool true)], args := [d1, d2, d3] }
  | _ => none }
def fnParserOpenGivesAnEmptyValueOfItsKindRow : OpenClaim := { program := "qxb6603622a", sum := "09b9f71bc1b479ceecfdec933ebf56c5b1e5ecbe96ae193c36c329c5d1351ef1", func := "example.com/utu/utu/zzlaws_jsonobject_b1.FnParserOpenGivesAnEmptyValueOfItsKind", spec := "fnParserOpenGivesAnEmptyValueOfItsKind", unfollowed := true, recurses := true, apart := false }
def FnParserOpenGivesAnEmptyValueOfItsKindSaid : Prop := fnParserOpenGivesAnEmptyValueOfItsKindRow.holds Try.pinned (OpenSpec.ofChange fnParserOpenGivesAnEmptyValueOfItsKindSpec)

/-- ITS FALSE NEIGHBOUR: 'it returns false'. Refute it at one input. -/
def fnParserOpenGivesAnEmptyValueOfItsKindWrong : ChangeSpec := { name := "fnParserOpenGivesAnEmptyValueOfItsKind", fn := fun _ => fun
  | [d1, d2, d3] => { results := [.lit (.bool false)], args := [d1, d2, d3] }
  | _ => none }
def FnParserOpenGivesAnEmptyValueOfItsKindWrongFalsely : Prop := fnParserOpenGivesAnEmptyValueOfItsKindRow.holds Try.pinned (OpenSpec.ofChange fnParserOpenGivesAnEmptyValueOfItsKindWrong)

end Rows
end Go.Proofs.Qxb6603622a
