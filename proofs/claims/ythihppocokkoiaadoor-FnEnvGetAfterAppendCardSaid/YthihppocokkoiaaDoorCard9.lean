/-
  PROVED HERE: whatever the arguments, the law FnEnvGetAfterAppend returns true and leaves its arguments alone: the tied card 'Rows.FnEnvGetAfterAppendCardSaid'. No condition of ours; the three tables that the row lists are laid in the witness alone, the walk reads none.
-/
import Derived.Test.YthihppocokkoiaaDoorLift9
import Derived.Test.YthihppocokkoiaaDoorJ9
namespace Go.Proofs.YthihppocokkoiaaDoor
open Go.ChangeShapes Go.WideShapes Go.ChangeAt Go.RowKit
set_option maxRecDepth 100000
set_option maxHeartbeats 4000000

theorem n9 : Tryd.prog.funcNamed "mvdan.cc/sh/v3/n010_90.FnEnvGetAfterAppend" = some 9 := by kernel_rfl
theorem i9 : Tryd.f9.isInstance Tryd.pinned.checked.prog Rows.fnEnvGetAfterAppendRow.origin Rows.fnEnvGetAfterAppendRow.targs := of_decide_eq_true (by kernel_rfl)
theorem w9 : Tryd.f9.isWrapper Tryd.pinned.checked.prog Rows.fnEnvGetAfterAppendRow.wrapper Rows.fnEnvGetAfterAppendRow.mainSum := by unfold Func.isWrapper; first | (rw [if_pos (by decide +kernel)]; kernel_rfl) | (rw [if_neg (by decide +kernel)]; exact ⟨rfl, rfl⟩)
theorem g9 : false = Rows.fnEnvGetAfterAppendRow.goesBy Tryd.pinned.checked.prog := by kernel_rfl
theorem wf9 : Rows.fnEnvGetAfterAppendRow.wfByText (OpenSpec.ofChange Rows.fnEnvGetAfterAppendSpec) = true := by kernel_rfl
theorem want9 : ([22, 9, 9, 9].all fun u => !Tryd.prog.wantsStandIn u) = true := by kernel_rfl

theorem said9 : Rows.FnEnvGetAfterAppendSaid :=
  OpenClaim.holds_of_wide 9 Tryd.f9 rfl rfl rfl rfl rfl rfl rfl ⟨rfl, rfl, rfl, rfl, rfl⟩ rfl rfl rfl rfl rfl n9 Tryd.func9 j9 i9 w9
    (fun os started H enc _ => lifted9 os started H enc)
theorem plain9 (f : FuncId) (fn : Func) (hf : Tryd.pinned.checked.prog.funcNamed Rows.fnEnvGetAfterAppendRow.func = some f) (hfn : Tryd.pinned.checked.prog.funcs[f]? = some fn) :
    false = Tryd.pinned.checked.prog.looks [] ∧ ∀ (j : Nat) t, fn.params[j]? = some t → Tryd.pinned.checked.prog.wantsStandIn t = false := by
  obtain rfl : f = 9 := (Option.some.inj (n9.symm.trans hf)).symm
  obtain rfl : fn = Tryd.f9 := (Option.some.inj (Tryd.func9.symm.trans hfn)).symm
  refine ⟨big_looks, fun j t ht => ?_⟩
  rw [Tryd.params9] at ht
  have hm : t ∈ [22, 9, 9, 9] := by simpa using Array.mem_of_getElem? ht
  exact (show Tryd.prog.wantsStandIn t = false by simpa using List.all_eq_true.1 want9 t hm)
theorem card9 : Rows.FnEnvGetAfterAppendCardSaid :=
  Claim7.holds_tied_plain_at .later [] _ _ _ _ said9 (fun _ h => by cases h) wf9 (fun _ h => by cases h) fnEnvGetAfterAppend_row_tie rfl ⟨rfl, rfl⟩ big_main rfl plain9 g9
#print axioms card9
end Go.Proofs.YthihppocokkoiaaDoor
