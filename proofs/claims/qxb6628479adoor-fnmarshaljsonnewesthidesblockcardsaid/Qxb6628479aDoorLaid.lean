/-
  Seat b6628479aD: what the rows' listed tables give the walks, and that the door's own heap meets the condition.
-/
import Derived.Test.Qxb6628479aDoorMarshal
import Derived.ProofKit
import Derived.LaidMore
import Derived.OpenShut
import Derived.Stop.Joined
import Derived.Lib.LaidTab
namespace Go.Proofs.Qxb6628479aDoor
open Go.ChangeShapes Go.WideShapes Go.ChangeAt Go.RowKit

theorem own : ownKnob Tryd.prog.godebug = none := by kernel_rfl

/-- What both rows list. -/
def laid3 : List (String × DataW Unit) := Rows.fnMarshalJSONStepsByOneRow.laid

/-- The door's own heap meets the condition. -/
theorem door_met (os : Os) (args : Array Value) : laidMetH Tryd.prog laid3 ((World.doorLaid Tryd.prog 24 os).forCall (fun _ _ => 0) ⟨#[], args, []⟩).memory :=
  laidMetH_of_parts3 (fuel := 8) (laidMet_of_run' 8 (by kernel_rfl) (by kernel_rfl)) (by kernel_rfl) (by kernel_rfl)

theorem gTy : (Tryd.prog.globals[0]?).map (·.type) = some 46 := by kernel_rfl

/-- WHAT THE CONDITION GIVES THE WALKS: the table of the powers of ten. -/
theorem tab_of_laid {W : World} (h : laidMetH Tryd.prog laid3 W) : Tab W := by
  rw [MakeChecks.laidMetH_plain _ _ _ (by kernel_rfl)] at h
  obtain ⟨ps, ⟨g0, t0, cs0, f0, p0, q0, hg0, ht0, hv0, hd0, ⟨g1, t1, cs1, f1, p1, q1, hg1, ht1, hv1, hd1, ⟨g2, t2, cs2, f2, p2, q2, hg2, ht2, hv2, hd2, _, _⟩, _⟩, _⟩, _, _⟩ := h
  obtain rfl := Option.some.inj (gT.symm.trans hg2)
  obtain rfl := Option.some.inj (gTy.symm.trans ht2)
  unfold Tab Lib.TabIs
  rw [hv2, ← Lib.cells_of_tab (zs := Lib.pow10Tab) (k := .u64) Tryd.underlying46 Tryd.underlying22 (by kernel_rfl) (by kernel_rfl) hd2]
end Go.Proofs.Qxb6628479aDoor
