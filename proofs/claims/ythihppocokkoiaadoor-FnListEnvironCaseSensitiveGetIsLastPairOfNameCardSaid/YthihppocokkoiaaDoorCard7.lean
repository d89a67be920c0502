/-
  PROVED HERE: whatever the arguments, the law FnListEnvironCaseSensitiveGetIsLastPairOfName returns true and leaves its arguments alone: the tied card 'Rows.FnListEnvironCaseSensitiveGetIsLastPairOfNameCardSaid'. No condition of ours; the three tables that the row lists are laid in the witness alone, the walk reads none.
-/
import Derived.Test.YthihppocokkoiaaDoorLift7
import Derived.Test.YthihppocokkoiaaDoorJ7
namespace Go.Proofs.YthihppocokkoiaaDoor
open Go.ChangeShapes Go.WideShapes Go.ChangeAt Go.RowKit
set_option maxRecDepth 100000
set_option maxHeartbeats 4000000

theorem n7 : Tryd.prog.funcNamed "mvdan.cc/sh/v3/n010_48.FnListEnvironCaseSensitiveGetIsLastPairOfName" = some 7 := by kernel_rfl
theorem i7 : Tryd.f7.isInstance Tryd.pinned.checked.prog Rows.fnListEnvironCaseSensitiveGetIsLastPairOfNameRow.origin Rows.fnListEnvironCaseSensitiveGetIsLastPairOfNameRow.targs := of_decide_eq_true (by kernel_rfl)
theorem w7 : Tryd.f7.isWrapper Tryd.pinned.checked.prog Rows.fnListEnvironCaseSensitiveGetIsLastPairOfNameRow.wrapper Rows.fnListEnvironCaseSensitiveGetIsLastPairOfNameRow.mainSum := by unfold Func.isWrapper; first | (rw [if_pos (by decide +kernel)]; kernel_rfl) | (rw [if_neg (by decide +kernel)]; exact ⟨rfl, rfl⟩)
theorem g7 : false = Rows.fnListEnvironCaseSensitiveGetIsLastPairOfNameRow.goesBy Tryd.pinned.checked.prog := by kernel_rfl
theorem wf7 : Rows.fnListEnvironCaseSensitiveGetIsLastPairOfNameRow.wfByText (OpenSpec.ofChange Rows.fnListEnvironCaseSensitiveGetIsLastPairOfNameSpec) = true := by kernel_rfl
theorem want7 : ([22, 9].all fun u => !Tryd.prog.wantsStandIn u) = true := by kernel_rfl

theorem said7 : Rows.FnListEnvironCaseSensitiveGetIsLastPairOfNameSaid :=
  OpenClaim.holds_of_wide 7 Tryd.f7 rfl rfl rfl rfl rfl rfl rfl ⟨rfl, rfl, rfl, rfl, rfl⟩ rfl rfl rfl rfl rfl n7 Tryd.func7 j7 i7 w7
    (fun os started H enc _ => lifted7 os started H enc)
theorem plain7 (f : FuncId) (fn : Func) (hf : Tryd.pinned.checked.prog.funcNamed Rows.fnListEnvironCaseSensitiveGetIsLastPairOfNameRow.func = some f) (hfn : Tryd.pinned.checked.prog.funcs[f]? = some fn) :
    false = Tryd.pinned.checked.prog.looks [] ∧ ∀ (j : Nat) t, fn.params[j]? = some t → Tryd.pinned.checked.prog.wantsStandIn t = false := by
  obtain rfl : f = 7 := (Option.some.inj (n7.symm.trans hf)).symm
  obtain rfl : fn = Tryd.f7 := (Option.some.inj (Tryd.func7.symm.trans hfn)).symm
  refine ⟨big_looks, fun j t ht => ?_⟩
  rw [Tryd.params7] at ht
  have hm : t ∈ [22, 9] := by simpa using Array.mem_of_getElem? ht
  exact (show Tryd.prog.wantsStandIn t = false by simpa using List.all_eq_true.1 want7 t hm)
theorem card7 : Rows.FnListEnvironCaseSensitiveGetIsLastPairOfNameCardSaid :=
  Claim7.holds_tied_plain_at .later [] _ _ _ _ said7 (fun _ h => by cases h) wf7 (fun _ h => by cases h) fnListEnvironCaseSensitiveGetIsLastPairOfName_row_tie rfl ⟨rfl, rfl⟩ big_main rfl plain7 g7
#print axioms card7
end Go.Proofs.YthihppocokkoiaaDoor
