/-
  WHAT THE ROWS' LISTED VARIABLES GIVE THE WALKS: the table of powers of ten; and the witness's start in the heap that the door's own run leaves.
-/
import Derived.Test.Qxb6001520aDoorWalk1
import Derived.ProofKit
import Derived.LaidMore
import Derived.OpenShut
import Derived.Stop.Joined
import Derived.Lib.LaidTab
namespace Go.Proofs.Qxb6001520aDoor
open Go.ChangeShapes Go.WideShapes Go.ChangeAt Go.RowKit

theorem own : ownKnob Tryd.prog.godebug = none := by kernel_rfl
theorem laidOut : laidOutB Tryd.prog = true := by kernel_rfl

/-- The rows' list. -/
def laid3 : List (String × DataW Unit) := Rows.fnSignAgreesWithStringRow.laid

set_option maxRecDepth 100000 in
theorem door_met (os : Os) (args : Array Value) : laidMetH Tryd.prog laid3 ((World.doorLaid Tryd.prog 400 os).forCall (fun _ _ => 0) ⟨#[], args, []⟩).memory :=
  laidMetH_of_parts3 (fuel := 8) (laidMet_of_run' 8 (by kernel_rfl) (by kernel_rfl)) (by kernel_rfl) (by kernel_rfl)

theorem cPow : Tryd.prog.cellsOf 65 = 20 := by kernel_rfl
theorem cU64 : Tryd.prog.cellsOf 51 = 1 := by kernel_rfl
theorem tPow : (Tryd.prog.globals[0]?).map (·.type) = some 65 := by kernel_rfl

set_option maxRecDepth 100000 in
theorem of_laid {W : World} (h : laidMetH Tryd.prog laid3 W) : Lib.TabIs Tryd.prog W Tryd.powName .u64 Lib.pow10Tab := by
  rw [MakeChecks.laidMetH_plain _ _ _ (by kernel_rfl)] at h
  obtain ⟨ps, ⟨g0, t0, cs0, f0, p0, q0, hg0, ht0, hv0, hd0, ⟨g1, t1, cs1, f1, p1, q1, hg1, ht1, hv1, hd1, ⟨g2, t2, cs2, f2, p2, q2, hg2, ht2, hv2, hd2, _, _⟩, _⟩, _⟩, _, _⟩ := h
  obtain rfl := Option.some.inj (gPow.symm.trans hg2)
  obtain rfl := Option.some.inj (tPow.symm.trans ht2)
  unfold Lib.TabIs
  have e := Lib.cells_of_tab (zs := Lib.pow10Tab) Tryd.underlying65 Tryd.underlying51 cU64 cPow hd2
  rw [← e]
  exact hv2

end Go.Proofs.Qxb6001520aDoor
