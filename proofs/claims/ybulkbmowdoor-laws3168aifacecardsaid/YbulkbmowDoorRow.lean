/-
  What both rows of this seat need: the table as it lies when the call begins.
-/
import Derived.Test.YbulkbmowDoorTie
import Derived.Test.YbulkbmowDoorCards
import Derived.Test.YbulkbmowDoorOpen
import Derived.ProofKit
import Derived.OpenShut
import Derived.ShutString
import Derived.ChangeOld
import Derived.Below
import Derived.Carry
import Derived.LaidMore
import Derived.Lay
import Derived.MakeChecks
import Derived.SevenTiedAt
import Derived.Stop.Joined
namespace Go.Proofs.YbulkbmowDoor
open Go.ChangeShapes Go.WideShapes Go.ChangeAt Go.RowKit Go
set_option maxRecDepth 100000

theorem own : ownKnob Ybad.prog.godebug = none := by kernel_rfl
theorem laidOut : laidOutB Ybad.prog = true := by kernel_rfl

theorem pow_at : Ybad.prog.globalNamed Ybad.powName = some 0 := by kernel_rfl
theorem pow_type : (Ybad.prog.globals[0]?).map (·.type) = some 175 := by kernel_rfl

/-- The table of powers, off the row's condition. -/
theorem tab_of {W : World} (h : laidMetH Ybad.prog Rows.lawS3168AStructRow.laid W) : Tab W.heap.size W := by
  rw [MakeChecks.laidMetH_plain _ _ _ (by kernel_rfl)] at h
  obtain ⟨ps, ⟨g0, t0, cs0, f0, p0, q0, hg0, ht0, hv0, hd0, ⟨g1, t1, cs1, f1, p1, q1, hg1, ht1, hv1, hd1, ⟨g2, t2, cs2, f2, p2, q2, hg2, ht2, hv2, hd2, _, _⟩, _⟩, _⟩, _⟩ := h
  have hg3 : Ybad.prog.globalNamed Ybad.powName = some g2 := hg2
  obtain rfl := Option.some.inj (pow_at.symm.trans hg3)
  obtain rfl := Option.some.inj (pow_type.symm.trans ht2)
  have hv3 : World.var? Ybad.prog W Ybad.powName = some cs2 := hv2
  have hd3 : DataW.trod (fun _ => ()) Ybad.prog W 0 (fun _ => true) false f2 175 cs2.toList = some (Lib.tabData .u64 Lib.pow10Tab, p2) := hd2
  refine ⟨?_, fun g hg => ?_⟩
  · unfold Lib.TabIs
    rw [hv3, ← Lib.cells_of_tab Ybad.underlying175 Ybad.underlying132 (by kernel_rfl) (by kernel_rfl) hd3]
  · obtain rfl := Option.some.inj (pow_at.symm.trans hg)
    unfold World.var? at hv3
    rw [pow_at] at hv3
    simp only [Option.bind_some] at hv3
    by_cases hs : 0 < W.heap.size
    · exact hs
    · rw [Array.getElem?_eq_none (by omega)] at hv3
      simp at hv3
end Go.Proofs.YbulkbmowDoor
