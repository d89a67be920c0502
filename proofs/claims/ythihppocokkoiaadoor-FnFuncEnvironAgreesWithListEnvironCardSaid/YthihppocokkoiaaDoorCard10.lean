/-
  PROVED HERE: whatever the arguments, the law FnFuncEnvironAgreesWithListEnviron returns true and leaves its arguments alone: the tied card 'Rows.FnFuncEnvironAgreesWithListEnvironCardSaid'. No condition of ours; the three tables that the row lists are laid in the witness alone, the walk reads none.
-/
import Derived.Test.YthihppocokkoiaaDoorLift10
import Derived.Test.YthihppocokkoiaaDoorJ10
namespace Go.Proofs.YthihppocokkoiaaDoor
open Go.ChangeShapes Go.WideShapes Go.ChangeAt Go.RowKit
set_option maxRecDepth 100000
set_option maxHeartbeats 4000000

theorem n10 : Tryd.prog.funcNamed "mvdan.cc/sh/v3/n010_40.FnFuncEnvironAgreesWithListEnviron" = some 10 := by kernel_rfl
theorem i10 : Tryd.f10.isInstance Tryd.pinned.checked.prog Rows.fnFuncEnvironAgreesWithListEnvironRow.origin Rows.fnFuncEnvironAgreesWithListEnvironRow.targs := of_decide_eq_true (by kernel_rfl)
theorem w10 : Tryd.f10.isWrapper Tryd.pinned.checked.prog Rows.fnFuncEnvironAgreesWithListEnvironRow.wrapper Rows.fnFuncEnvironAgreesWithListEnvironRow.mainSum := by unfold Func.isWrapper; first | (rw [if_pos (by decide +kernel)]; kernel_rfl) | (rw [if_neg (by decide +kernel)]; exact ⟨rfl, rfl⟩)
theorem g10 : false = Rows.fnFuncEnvironAgreesWithListEnvironRow.goesBy Tryd.pinned.checked.prog := by kernel_rfl
theorem wf10 : Rows.fnFuncEnvironAgreesWithListEnvironRow.wfByText (OpenSpec.ofChange Rows.fnFuncEnvironAgreesWithListEnvironSpec) = true := by kernel_rfl
theorem want10 : ([22, 22, 9].all fun u => !Tryd.prog.wantsStandIn u) = true := by kernel_rfl

theorem said10 : Rows.FnFuncEnvironAgreesWithListEnvironSaid :=
  OpenClaim.holds_of_wide 10 Tryd.f10 rfl rfl rfl rfl rfl rfl rfl ⟨rfl, rfl, rfl, rfl, rfl⟩ rfl rfl rfl rfl rfl n10 Tryd.func10 j10 i10 w10
    (fun os started H enc _ => lifted10 os started H enc)
theorem plain10 (f : FuncId) (fn : Func) (hf : Tryd.pinned.checked.prog.funcNamed Rows.fnFuncEnvironAgreesWithListEnvironRow.func = some f) (hfn : Tryd.pinned.checked.prog.funcs[f]? = some fn) :
    false = Tryd.pinned.checked.prog.looks [] ∧ ∀ (j : Nat) t, fn.params[j]? = some t → Tryd.pinned.checked.prog.wantsStandIn t = false := by
  obtain rfl : f = 10 := (Option.some.inj (n10.symm.trans hf)).symm
  obtain rfl : fn = Tryd.f10 := (Option.some.inj (Tryd.func10.symm.trans hfn)).symm
  refine ⟨big_looks, fun j t ht => ?_⟩
  rw [Tryd.params10] at ht
  have hm : t ∈ [22, 22, 9] := by simpa using Array.mem_of_getElem? ht
  exact (show Tryd.prog.wantsStandIn t = false by simpa using List.all_eq_true.1 want10 t hm)
theorem card10 : Rows.FnFuncEnvironAgreesWithListEnvironCardSaid :=
  Claim7.holds_tied_plain_at .later [] _ _ _ _ said10 (fun _ h => by cases h) wf10 (fun _ h => by cases h) fnFuncEnvironAgreesWithListEnviron_row_tie rfl ⟨rfl, rfl⟩ big_main rfl plain10 g10
#print axioms card10
end Go.Proofs.YthihppocokkoiaaDoor
