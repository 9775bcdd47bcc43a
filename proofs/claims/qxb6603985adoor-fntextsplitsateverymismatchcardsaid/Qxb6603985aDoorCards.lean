/-
  DERIVED. GIVEN WITH THE SEED: THE CARDS: each row of Qxb6603985aDoorRows.lean that lists a variable, with what it lists TIED to the program's text (the seventh form; the later family's looks); each row that meets fmt, with fmt's text TOLD by the authors' own Lean function (tested against real Go, not proved from fmt's source: count such statements apart). THE CARD IS WHAT COUNTS. Prove the row's statement (the work); the ties are given (Qxb6603985aDoorTie.lean); close each card by the builder's one call (the guide's Derived/Test/ToyasCard.lean, 'card_holds'). Laid BY PROGRAM, IN A SANDBOX (cutbox-door.mjs). By AI agents, Wed Nov 11 2026. No macro, syntax, notation, axiom, sorry.
-/
import Derived.Test.Qxb6603985aDoorRows
import GoSem.ClaimSeven
namespace Go.Proofs.Qxb6603985aDoor
namespace Rows

/-- THE TIED CARD OF 'zzlaws_internal_rules_b1.FnSideStringInjective'. -/
def fnSideStringInjectiveCard : Claim7 := { stood := { row := fnSideStringInjectiveRow, standIns := [], harness := (true, "3475ee1581bc213d440f7cfd52b6ad03b4cb08f529c5991c31f6e9fb2aaf4e80"), looks := false }, kinds := [], alts := [], laidByText := true, laidKinds := [.data, .data, .data], laidTests := true, laidLooks := .later }
def FnSideStringInjectiveCardSaid : Prop := Claim7.holds Tryd.pinned (.plain (OpenSpec.ofChange fnSideStringInjectiveSpec)) fnSideStringInjectiveCard

/-- THE TIED CARD OF 'zzlaws_internal_rules_b1.FnTextSplitsAtEveryMismatch'. -/
def fnTextSplitsAtEveryMismatchCard : Claim7 := { stood := { row := fnTextSplitsAtEveryMismatchRow, standIns := [], harness := (true, "3475ee1581bc213d440f7cfd52b6ad03b4cb08f529c5991c31f6e9fb2aaf4e80"), looks := false }, kinds := [], alts := [], laidByText := true, laidKinds := [.data, .data, .data], laidTests := true, laidLooks := .later }
def FnTextSplitsAtEveryMismatchCardSaid : Prop := Claim7.holds Tryd.pinned (.plain (OpenSpec.ofChange fnTextSplitsAtEveryMismatchSpec)) fnTextSplitsAtEveryMismatchCard
end Rows
end Go.Proofs.Qxb6603985aDoor
