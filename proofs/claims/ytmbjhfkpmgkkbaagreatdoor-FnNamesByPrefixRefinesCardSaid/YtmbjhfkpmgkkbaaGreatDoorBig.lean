/-
  Closed facts about the program that every card of this seat shares. No condition.
-/
import Derived.Test.YtmbjhfkpmgkkbaaGreatDoorOpen
namespace Go.Proofs.YtmbjhfkpmgkkbaaGreatDoor
open Go.ChangeShapes Go.WideShapes Go.ChangeAt Go.RowKit
set_option maxRecDepth 100000
set_option maxHeartbeats 40000000
theorem big_heard : Tryz.pinned.checked.prog.stopsHeard = true := by kernel_rfl
theorem big_enter : Tryz.pinned.checked.prog.mayEnter = true := by kernel_rfl
theorem big_lifts : (Rows.fnNamesByPrefixModelRow.lifted == Tryz.pinned.checked.prog.liftsFinal) = true := by kernel_rfl
theorem big_make : (Tryz.pinned.checked.prog.make == some Rows.fnNamesByPrefixModelRow.make) = true := by kernel_rfl
theorem big_laid : laidOutB Tryz.pinned.checked.prog = true := by kernel_rfl
theorem big_maps : mapsRowed Tryz.pinned.checked.prog = true := by kernel_rfl
theorem big_main : Tryz.pinned.checked.prog.mainIs = some (true, "bba3d113240736cddf0751cb5e7910b0a77428c276ce21b92fe5bd1a70b435e3".toList) := by kernel_rfl
theorem big_looks : false = Tryz.pinned.checked.prog.looks [] := by kernel_rfl
end Go.Proofs.YtmbjhfkpmgkkbaaGreatDoor
