/-
  Closed facts about the program that every card of this seat shares. No condition.
-/
import Derived.Test.YthihppocokkoiaaDoorOpen
namespace Go.Proofs.YthihppocokkoiaaDoor
open Go.ChangeShapes Go.WideShapes Go.ChangeAt Go.RowKit
set_option maxRecDepth 100000
set_option maxHeartbeats 40000000
theorem big_heard : Tryd.pinned.checked.prog.stopsHeard = true := by kernel_rfl
theorem big_enter : Tryd.pinned.checked.prog.mayEnter = true := by kernel_rfl
theorem big_lifts : (Rows.fnGetReturnsLastPairForNameRow.lifted == Tryd.pinned.checked.prog.liftsFinal) = true := by kernel_rfl
theorem big_make : (Tryd.pinned.checked.prog.make == some Rows.fnGetReturnsLastPairForNameRow.make) = true := by kernel_rfl
theorem big_laid : laidOutB Tryd.pinned.checked.prog = true := by kernel_rfl
theorem big_maps : mapsRowed Tryd.pinned.checked.prog = true := by kernel_rfl
theorem big_main : Tryd.pinned.checked.prog.mainIs = some (true, "ee25640a3dc0fcee5120d1279d7327be0fc51416bdba84cf9db9129713781560".toList) := by kernel_rfl
theorem big_looks : false = Tryd.pinned.checked.prog.looks [] := by kernel_rfl
end Go.Proofs.YthihppocokkoiaaDoor
