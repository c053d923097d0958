/-
  What the listed variables give the walks; the witness' heap.
-/
import Derived.Test.Qxb6620856aDoorLaw3
import Derived.Test.Qxb6620856aDoorTie
import Derived.Test.Qxb6620856aDoorCards
import Derived.ProofKit
import Derived.LaidMore
import Derived.OpenShut
import Derived.Stop.Joined
import Derived.Lib.LaidTab
namespace Go.Proofs.Qxb6620856aDoor
open Go.ChangeShapes Go.WideShapes Go.ChangeAt Go.RowKit

theorem own : ownKnob Tryd.prog.godebug = none := by kernel_rfl
theorem laidOut : laidOutB Tryd.prog = true := by kernel_rfl
theorem gPow : Tryd.prog.globalNamed tabName = some 0 := by kernel_rfl
theorem tPow : (Tryd.prog.globals[0]?).map (·.type) = some 74 := by kernel_rfl
theorem under74 : Tryd.prog.underlying 74 = some (.array 20 57) := by kernel_rfl
theorem under57 : Tryd.prog.underlying 57 = some (.int .u64) := by kernel_rfl
theorem cells57 : Tryd.prog.cellsOf 57 = 1 := by kernel_rfl
theorem cells74 : Tryd.prog.cellsOf 74 = 20 := by kernel_rfl
theorem cells3 : Tryd.prog.cellsOf 3 = 1 := by kernel_rfl
theorem powData : (Rows.laid_internal_strconv_uint64pow10 : DataW Unit) = Lib.tabData .u64 Lib.pow10Tab := by kernel_rfl

/-- The list of the two rows of this seat. -/
abbrev laid3 : List (String × DataW Unit) := Rows.fnFormatListMatchesRunByRunModelRow.laid

/-- The door's own heap meets the condition. -/
theorem door_met (os : Os) (args : Array Value) : laidMetH Tryd.prog laid3 ((World.doorLaid Tryd.prog 72 os).forCall (fun _ _ => 0) ⟨#[], args, []⟩).memory :=
  laidMetH_of_parts3 (fuel := 8) (laidMet_of_run' 8 (by kernel_rfl) (by kernel_rfl)) (by kernel_rfl) (by kernel_rfl)

/-- The table of powers, out of the condition. -/
theorem tab_of_laid {W : World} (h : laidMetH Tryd.prog laid3 W) : Tab W := by
  rw [MakeChecks.laidMetH_plain _ _ _ (by kernel_rfl)] at h
  obtain ⟨ps, ⟨g0, t0, cs0, f0, p0, q0, hg0, ht0, hv0, hd0, ⟨g1, t1, cs1, f1, p1, q1, hg1, ht1, hv1, hd1, ⟨g2, t2, cs2, f2, p2, q2, hg2, ht2, hv2, hd2, _, _⟩, _⟩, _⟩, _⟩ := h
  have hg2' : Tryd.prog.globalNamed tabName = some g2 := hg2
  obtain rfl := Option.some.inj (gPow.symm.trans hg2')
  obtain rfl := Option.some.inj (tPow.symm.trans ht2)
  have hd : DataW.trod (fun _ => ()) Tryd.prog W 0 (fun _ => true) false f2 74 cs2.toList = some (Lib.tabData .u64 Lib.pow10Tab, p2) := by rw [← powData]; exact hd2
  have hc := Lib.cells_of_tab under74 under57 cells57 cells74 hd
  show W.var? Tryd.prog tabName = some _
  have hv : W.var? Tryd.prog tabName = some cs2 := hv2
  rw [hv, ← hc]
end Go.Proofs.Qxb6620856aDoor
