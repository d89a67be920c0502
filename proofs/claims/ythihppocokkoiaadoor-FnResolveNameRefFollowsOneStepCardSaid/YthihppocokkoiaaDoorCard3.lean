/-
  PROVED HERE: whatever the arguments, the law FnResolveNameRefFollowsOneStep returns true and leaves its arguments alone: the tied card 'Rows.FnResolveNameRefFollowsOneStepCardSaid'. No condition of ours; the three tables that the row lists are laid in the witness alone, the walk reads none.
-/
import Derived.Test.YthihppocokkoiaaDoorLift3
import Derived.Test.YthihppocokkoiaaDoorJ3
namespace Go.Proofs.YthihppocokkoiaaDoor
open Go.ChangeShapes Go.WideShapes Go.ChangeAt Go.RowKit
set_option maxRecDepth 100000
set_option maxHeartbeats 4000000

theorem n3 : Tryd.prog.funcNamed "mvdan.cc/sh/v3/n010_40.FnResolveNameRefFollowsOneStep" = some 3 := by kernel_rfl
theorem i3 : Tryd.f3.isInstance Tryd.pinned.checked.prog Rows.fnResolveNameRefFollowsOneStepRow.origin Rows.fnResolveNameRefFollowsOneStepRow.targs := of_decide_eq_true (by kernel_rfl)
theorem w3 : Tryd.f3.isWrapper Tryd.pinned.checked.prog Rows.fnResolveNameRefFollowsOneStepRow.wrapper Rows.fnResolveNameRefFollowsOneStepRow.mainSum := by unfold Func.isWrapper; first | (rw [if_pos (by decide +kernel)]; kernel_rfl) | (rw [if_neg (by decide +kernel)]; exact ⟨rfl, rfl⟩)
theorem g3 : false = Rows.fnResolveNameRefFollowsOneStepRow.goesBy Tryd.pinned.checked.prog := by kernel_rfl
theorem wf3 : Rows.fnResolveNameRefFollowsOneStepRow.wfByText (OpenSpec.ofChange Rows.fnResolveNameRefFollowsOneStepSpec) = true := by kernel_rfl
theorem want3 : ([22, 9, 4, 4].all fun u => !Tryd.prog.wantsStandIn u) = true := by kernel_rfl

theorem said3 : Rows.FnResolveNameRefFollowsOneStepSaid :=
  OpenClaim.holds_of_wide 3 Tryd.f3 rfl rfl rfl rfl rfl rfl rfl ⟨rfl, rfl, rfl, rfl, rfl⟩ rfl rfl rfl rfl rfl n3 Tryd.func3 j3 i3 w3
    (fun os started H enc _ => lifted3 os started H enc)
theorem plain3 (f : FuncId) (fn : Func) (hf : Tryd.pinned.checked.prog.funcNamed Rows.fnResolveNameRefFollowsOneStepRow.func = some f) (hfn : Tryd.pinned.checked.prog.funcs[f]? = some fn) :
    false = Tryd.pinned.checked.prog.looks [] ∧ ∀ (j : Nat) t, fn.params[j]? = some t → Tryd.pinned.checked.prog.wantsStandIn t = false := by
  obtain rfl : f = 3 := (Option.some.inj (n3.symm.trans hf)).symm
  obtain rfl : fn = Tryd.f3 := (Option.some.inj (Tryd.func3.symm.trans hfn)).symm
  refine ⟨big_looks, fun j t ht => ?_⟩
  rw [Tryd.params3] at ht
  have hm : t ∈ [22, 9, 4, 4] := by simpa using Array.mem_of_getElem? ht
  exact (show Tryd.prog.wantsStandIn t = false by simpa using List.all_eq_true.1 want3 t hm)
theorem card3 : Rows.FnResolveNameRefFollowsOneStepCardSaid :=
  Claim7.holds_tied_plain_at .later [] _ _ _ _ said3 (fun _ h => by cases h) wf3 (fun _ h => by cases h) fnResolveNameRefFollowsOneStep_row_tie rfl ⟨rfl, rfl⟩ big_main rfl plain3 g3
#print axioms card3
end Go.Proofs.YthihppocokkoiaaDoor
