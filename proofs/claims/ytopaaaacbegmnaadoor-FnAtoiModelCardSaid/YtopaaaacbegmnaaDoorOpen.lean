/-
  What every card of this seat shares. No condition.
-/
import Derived.Test.YtopaaaacbegmnaaDoorProg
import Derived.Test.YtopaaaacbegmnaaDoorCards
import Derived.Test.YtopaaaacbegmnaaDoorTie
import Derived.ProofKit
import Derived.OpenShut
import Derived.LaidMore
import Derived.Lay
import Derived.SevenTiedAt
import Derived.Stop.Joined
import Derived.ShutString
import Derived.SliceStrings
namespace Go.Proofs.YtopaaaacbegmnaaDoor
set_option linter.unusedVariables false
open Go.ChangeShapes Go.WideShapes Go.ChangeAt Go.RowKit
open Go.ChangeMaps (open_string shut_string)

theorem own : ownKnob Tryd.prog.godebug = none := by kernel_rfl
theorem laidOut : laidOutB Tryd.prog = true := by kernel_rfl
end Go.Proofs.YtopaaaacbegmnaaDoor
