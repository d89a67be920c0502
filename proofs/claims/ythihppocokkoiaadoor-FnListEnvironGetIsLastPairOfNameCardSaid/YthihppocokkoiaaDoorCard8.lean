/-
  PROVED HERE: whatever the arguments, the law FnListEnvironGetIsLastPairOfName returns true and leaves its arguments alone: the tied card 'Rows.FnListEnvironGetIsLastPairOfNameCardSaid'. No condition of ours; the three tables that the row lists are laid in the witness alone, the walk reads none.
-/
import Derived.Test.YthihppocokkoiaaDoorLift8
import Derived.Test.YthihppocokkoiaaDoorJ8
namespace Go.Proofs.YthihppocokkoiaaDoor
open Go.ChangeShapes Go.WideShapes Go.ChangeAt Go.RowKit
set_option maxRecDepth 100000
set_option maxHeartbeats 4000000

theorem n8 : Tryd.prog.funcNamed "mvdan.cc/sh/v3/n010_48.FnListEnvironGetIsLastPairOfName" = some 8 := by kernel_rfl
theorem i8 : Tryd.f8.isInstance Tryd.pinned.checked.prog Rows.fnListEnvironGetIsLastPairOfNameRow.origin Rows.fnListEnvironGetIsLastPairOfNameRow.targs := of_decide_eq_true (by kernel_rfl)
theorem w8 : Tryd.f8.isWrapper Tryd.pinned.checked.prog Rows.fnListEnvironGetIsLastPairOfNameRow.wrapper Rows.fnListEnvironGetIsLastPairOfNameRow.mainSum := by unfold Func.isWrapper; first | (rw [if_pos (by decide +kernel)]; kernel_rfl) | (rw [if_neg (by decide +kernel)]; exact ⟨rfl, rfl⟩)
theorem g8 : false = Rows.fnListEnvironGetIsLastPairOfNameRow.goesBy Tryd.pinned.checked.prog := by kernel_rfl
theorem wf8 : Rows.fnListEnvironGetIsLastPairOfNameRow.wfByText (OpenSpec.ofChange Rows.fnListEnvironGetIsLastPairOfNameSpec) = true := by kernel_rfl
theorem want8 : ([22, 9].all fun u => !Tryd.prog.wantsStandIn u) = true := by kernel_rfl

theorem said8 : Rows.FnListEnvironGetIsLastPairOfNameSaid :=
  OpenClaim.holds_of_wide 8 Tryd.f8 rfl rfl rfl rfl rfl rfl rfl ⟨rfl, rfl, rfl, rfl, rfl⟩ rfl rfl rfl rfl rfl n8 Tryd.func8 j8 i8 w8
    (fun os started H enc _ => lifted8 os started H enc)
theorem plain8 (f : FuncId) (fn : Func) (hf : Tryd.pinned.checked.prog.funcNamed Rows.fnListEnvironGetIsLastPairOfNameRow.func = some f) (hfn : Tryd.pinned.checked.prog.funcs[f]? = some fn) :
    false = Tryd.pinned.checked.prog.looks [] ∧ ∀ (j : Nat) t, fn.params[j]? = some t → Tryd.pinned.checked.prog.wantsStandIn t = false := by
  obtain rfl : f = 8 := (Option.some.inj (n8.symm.trans hf)).symm
  obtain rfl : fn = Tryd.f8 := (Option.some.inj (Tryd.func8.symm.trans hfn)).symm
  refine ⟨big_looks, fun j t ht => ?_⟩
  rw [Tryd.params8] at ht
  have hm : t ∈ [22, 9] := by simpa using Array.mem_of_getElem? ht
  exact (show Tryd.prog.wantsStandIn t = false by simpa using List.all_eq_true.1 want8 t hm)
theorem card8 : Rows.FnListEnvironGetIsLastPairOfNameCardSaid :=
  Claim7.holds_tied_plain_at .later [] _ _ _ _ said8 (fun _ h => by cases h) wf8 (fun _ h => by cases h) fnListEnvironGetIsLastPairOfName_row_tie rfl ⟨rfl, rfl⟩ big_main rfl plain8 g8
#print axioms card8
end Go.Proofs.YthihppocokkoiaaDoor
