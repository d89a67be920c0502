/-
  The closed facts of the row of law 4. No condition: facts about the program alone.
-/
import Derived.Test.YtmbjhfkpmgkkbaaGreatDoorBig
namespace Go.Proofs.YtmbjhfkpmgkkbaaGreatDoor
open Go.ChangeShapes Go.WideShapes Go.ChangeAt Go.RowKit
set_option maxRecDepth 100000
set_option maxHeartbeats 40000000
theorem j4 : joinedFacts Tryz.pinned.checked.prog 4 Tryz.f4 Rows.fnNamesByPrefixRefinesSpec Rows.fnNamesByPrefixRefinesRow = true := by
  unfold joinedFacts
  repeat' (with_reducible refine Bool.and_eq_true_iff.2 ⟨?_, ?_⟩)
  all_goals first
    | with_reducible exact big_heard
    | with_reducible exact big_enter
    | with_reducible exact big_laid
    | with_reducible exact big_maps
    | (rw [show Rows.fnNamesByPrefixRefinesRow.lifted = Rows.fnNamesByPrefixModelRow.lifted from rfl]; with_reducible exact big_lifts)
    | (rw [show Rows.fnNamesByPrefixRefinesRow.make = Rows.fnNamesByPrefixModelRow.make from rfl]; with_reducible exact big_make)
    | (as_aux_lemma => kernel_rfl)
end Go.Proofs.YtmbjhfkpmgkkbaaGreatDoor
