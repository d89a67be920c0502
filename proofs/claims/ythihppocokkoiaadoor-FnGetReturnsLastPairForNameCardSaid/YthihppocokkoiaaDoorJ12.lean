/-
  The closed facts of FnGetReturnsLastPairForName's row. No condition: facts about the program alone.
-/
import Derived.Test.YthihppocokkoiaaDoorOpen
namespace Go.Proofs.YthihppocokkoiaaDoor
open Go.ChangeShapes Go.WideShapes Go.ChangeAt Go.RowKit
set_option maxRecDepth 100000
set_option maxHeartbeats 40000000
theorem j12 : joinedFacts Tryd.pinned.checked.prog 12 Tryd.f12 Rows.fnGetReturnsLastPairForNameSpec Rows.fnGetReturnsLastPairForNameRow = true := by
  unfold joinedFacts
  repeat' (with_reducible refine Bool.and_eq_true_iff.2 ⟨?_, ?_⟩)
  all_goals (as_aux_lemma => kernel_rfl)
end Go.Proofs.YthihppocokkoiaaDoor
