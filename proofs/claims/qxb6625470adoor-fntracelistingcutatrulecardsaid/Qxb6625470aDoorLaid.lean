import Derived.Test.Qxb6625470aDoorOpen
import Derived.Test.Qxb6625470aDoorCards
import Derived.Test.Qxb6625470aDoorTie
namespace Go.Proofs.Qxb6625470aDoor
open Go.ChangeShapes Go.WideShapes Go.ChangeAt Go.RowKit
set_option linter.unusedVariables false

theorem ownKn : ownKnob Tryd.prog.godebug = none := by kernel_rfl
theorem outLaid : laidOutB Tryd.prog = true := by kernel_rfl

/-- The door's own heap meets the condition. -/
theorem door_met (os : Os) (args : Array Value) : laidMetH Tryd.prog Rows.fnTraceListingExactRow.laid ((World.doorLaid Tryd.prog 62 os).forCall (fun _ _ => 0) ⟨#[], args, []⟩).memory :=
  laidMetH_of_parts3 (fuel := 8) (laidMet_of_run' 8 (by kernel_rfl) (by kernel_rfl)) (by kernel_rfl) (by kernel_rfl)

theorem gType : (Tryd.prog.globals[1]?).map (·.type) = some 86 := by kernel_rfl

theorem tab_of_laid {W : World} (h : laidMetH Tryd.prog Rows.fnTraceListingExactRow.laid W) : Tab W := by
  rw [MakeChecks.laidMetH_plain _ _ _ (by kernel_rfl)] at h
  obtain ⟨ps, ⟨g0, t0, cs0, f0, p0, q0, hg0, ht0, hv0, hd0, ⟨g1, t1, cs1, f1, p1, q1, hg1, ht1, hv1, hd1, ⟨g2, t2, cs2, f2, p2, q2, hg2, ht2, hv2, hd2, _, _⟩, _⟩, _⟩, _, _⟩ := h
  have hg : Tryd.prog.globalNamed tabName = some g2 := hg2
  obtain rfl := Option.some.inj (tabGlobal.symm.trans hg)
  obtain rfl := Option.some.inj (gType.symm.trans ht2)
  have hv : W.var? Tryd.prog tabName = some cs2 := hv2
  unfold Tab Lib.TabIs
  have hc : cs2.toList = Lib.pow10Tab.map fun z => Value.int .u64 z := Lib.cells_of_tab (t := 86) (e := 77) (n := 20) (k := .u64) Tryd.underlying86 Tryd.underlying77 (by kernel_rfl) (by kernel_rfl) hd2
  rw [hv, ← hc]
end Go.Proofs.Qxb6625470aDoor
