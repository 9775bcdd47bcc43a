import Derived.Test.Qxb6603985aDoorRows
import Derived.Test.Qxb6603985aDoorText
import Derived.ProofKit
import Derived.LaidMore
import Derived.Stop.Joined
import Derived.Lib.LaidTab
namespace Go.Proofs.Qxb6603985aDoor
open Go.ChangeShapes Go.WideShapes Go.ChangeAt Go.RowKit
set_option linter.unusedVariables false

abbrev laid3 : List (String × DataW Unit) := Rows.fnTextSplitsAtEveryMismatchRow.laid

theorem pow10Ty : (Tryd.prog.globals[0]?).map (·.type) = some 56 := by kernel_rfl

/-- What the row's condition gives the walks. -/
theorem of_laid {W : World} (h : laidMetH Tryd.prog laid3 W) : Lib.TabIs Tryd.prog W "internal/strconv.uint64pow10" .u64 Lib.pow10Tab := by
  rw [MakeChecks.laidMetH_plain _ _ _ (by kernel_rfl)] at h
  obtain ⟨ps, ⟨g0, t0, cs0, f0, p0, q0, hg0, ht0, hv0, hd0, ⟨g1, t1, cs1, f1, p1, q1, hg1, ht1, hv1, hd1, ⟨g2, t2, cs2, f2, p2, q2, hg2, ht2, hv2, hd2, _, _⟩, _⟩, _⟩, _, _⟩ := h
  obtain rfl := Option.some.inj (pow10At.symm.trans hg2)
  obtain rfl := Option.some.inj (pow10Ty.symm.trans ht2)
  unfold Lib.TabIs
  rw [hv2, ← Lib.cells_of_tab Tryd.underlying56 Tryd.underlying49 (by kernel_rfl) (by kernel_rfl) (show DataW.trod _ _ _ _ _ _ _ _ _ = some (Lib.tabData .u64 Lib.pow10Tab, p2) from hd2)]

/-- The door's own heap meets the condition. -/
theorem door_met (os : Os) (args : Array Value) : laidMetH Tryd.prog laid3 ((World.doorLaid Tryd.prog 400 os).forCall (fun _ _ => 0) ⟨#[], args, []⟩).memory :=
  laidMetH_of_parts3 (fuel := 8) (laidMet_of_run' 8 (by kernel_rfl) (by kernel_rfl)) (by kernel_rfl) (by kernel_rfl)

end Go.Proofs.Qxb6603985aDoor
