/-
  PROVED HERE: whatever the arguments, the law FnWriteLitTabsShielded returns true and leaves its arguments alone: the tied card 'Rows.FnWriteLitTabsShieldedCardSaid'. No condition of ours; what the row lists is laid in the witness.
-/
import Derived.Test.YtopaaaacbegmnaaDoorLift5
import Derived.Test.YtopaaaacbegmnaaDoorJ5
namespace Go.Proofs.YtopaaaacbegmnaaDoor
open Go.ChangeShapes Go.WideShapes Go.ChangeAt Go.RowKit
set_option maxRecDepth 100000
set_option maxHeartbeats 4000000

theorem n5 : Tryd.prog.funcNamed "mvdan.cc/sh/v3/n010_138.FnWriteLitTabsShielded" = some 5 := by kernel_rfl
theorem i5 : Tryd.f5.isInstance Tryd.pinned.checked.prog Rows.fnWriteLitTabsShieldedRow.origin Rows.fnWriteLitTabsShieldedRow.targs := of_decide_eq_true (by kernel_rfl)
theorem w5 : Tryd.f5.isWrapper Tryd.pinned.checked.prog Rows.fnWriteLitTabsShieldedRow.wrapper Rows.fnWriteLitTabsShieldedRow.mainSum := by unfold Func.isWrapper; first | (rw [if_pos (by decide +kernel)]; kernel_rfl) | (rw [if_neg (by decide +kernel)]; exact ⟨rfl, rfl⟩)
theorem g5 : false = Rows.fnWriteLitTabsShieldedRow.goesBy Tryd.pinned.checked.prog := by kernel_rfl
theorem wf5 : Rows.fnWriteLitTabsShieldedRow.wfByText (OpenSpec.ofChange Rows.fnWriteLitTabsShieldedSpec) = true := by kernel_rfl
theorem want5 : ([9].all fun u => !Tryd.prog.wantsStandIn u) = true := by kernel_rfl

theorem said5 : Rows.FnWriteLitTabsShieldedSaid :=
  OpenClaim.holds_of_wide 5 Tryd.f5 rfl rfl rfl rfl rfl rfl rfl ⟨rfl, rfl, rfl, rfl, rfl⟩ rfl rfl rfl rfl rfl n5 Tryd.func5 j5 i5 w5
    (fun os started H enc _ => lifted5 os started H enc)
theorem plain5 (f : FuncId) (fn : Func) (hf : Tryd.pinned.checked.prog.funcNamed Rows.fnWriteLitTabsShieldedRow.func = some f) (hfn : Tryd.pinned.checked.prog.funcs[f]? = some fn) :
    true = Tryd.pinned.checked.prog.looks [] ∧ ∀ (j : Nat) t, fn.params[j]? = some t → Tryd.pinned.checked.prog.wantsStandIn t = false := by
  obtain rfl : f = 5 := (Option.some.inj (n5.symm.trans hf)).symm
  obtain rfl : fn = Tryd.f5 := (Option.some.inj (Tryd.func5.symm.trans hfn)).symm
  refine ⟨big_looks, fun j t ht => ?_⟩
  rw [Tryd.params5] at ht
  have hm : t ∈ [9] := by simpa using Array.mem_of_getElem? ht
  exact (show Tryd.prog.wantsStandIn t = false by simpa using List.all_eq_true.1 want5 t hm)
theorem card5 : Rows.FnWriteLitTabsShieldedCardSaid :=
  Claim7.holds_tied_plain_at .later [] _ _ _ _ said5 (fun _ h => by cases h) wf5 (fun _ h => by cases h) fnWriteLitTabsShielded_row_tie rfl ⟨rfl, rfl⟩ big_main rfl plain5 g5
#print axioms card5
end Go.Proofs.YtopaaaacbegmnaaDoor
