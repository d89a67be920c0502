/-
  Closed facts about the program that every card of this seat shares. No condition.
-/
import Derived.Test.YtopaaaacbegmnaaDoorOpen
namespace Go.Proofs.YtopaaaacbegmnaaDoor
open Go.ChangeShapes Go.WideShapes Go.ChangeAt Go.RowKit
set_option maxRecDepth 100000
set_option maxHeartbeats 40000000
theorem big_heard : Tryd.pinned.checked.prog.stopsHeard = true := by kernel_rfl
theorem big_enter : Tryd.pinned.checked.prog.mayEnter = true := by kernel_rfl
theorem big_lifts : (Rows.fnWriteLitTabsShieldedRow.lifted == Tryd.pinned.checked.prog.liftsFinal) = true := by kernel_rfl
theorem big_make : (Tryd.pinned.checked.prog.make == some Rows.fnWriteLitTabsShieldedRow.make) = true := by kernel_rfl
theorem big_laid : laidOutB Tryd.pinned.checked.prog = true := by kernel_rfl
theorem big_maps : mapsRowed Tryd.pinned.checked.prog = true := by kernel_rfl
theorem big_main : Tryd.pinned.checked.prog.mainIs = some (true, "a30db24ba69078ceb3456861987a86b63433b219645271c02fd288d7f940fa82".toList) := by kernel_rfl
theorem big_looks : true = Tryd.pinned.checked.prog.looks [] := by kernel_rfl
end Go.Proofs.YtopaaaacbegmnaaDoor
