/-
  PROVED HERE: whatever the arguments, the law FnGetReturnsLastPairForName returns true and leaves its arguments alone: the tied card 'Rows.FnGetReturnsLastPairForNameCardSaid'. No condition of ours; the three tables that the row lists are laid in the witness alone, the walk reads none.
-/
import Derived.Test.YthihppocokkoiaaDoorLift12
import Derived.Test.YthihppocokkoiaaDoorJ12
namespace Go.Proofs.YthihppocokkoiaaDoor
open Go.ChangeShapes Go.WideShapes Go.ChangeAt Go.RowKit
set_option maxRecDepth 100000
set_option maxHeartbeats 4000000

theorem n12 : Tryd.prog.funcNamed "mvdan.cc/sh/v3/n010_50.FnGetReturnsLastPairForName" = some 12 := by kernel_rfl
theorem i12 : Tryd.f12.isInstance Tryd.pinned.checked.prog Rows.fnGetReturnsLastPairForNameRow.origin Rows.fnGetReturnsLastPairForNameRow.targs := of_decide_eq_true (by kernel_rfl)
theorem w12 : Tryd.f12.isWrapper Tryd.pinned.checked.prog Rows.fnGetReturnsLastPairForNameRow.wrapper Rows.fnGetReturnsLastPairForNameRow.mainSum := by unfold Func.isWrapper; first | (rw [if_pos (by decide +kernel)]; kernel_rfl) | (rw [if_neg (by decide +kernel)]; exact ⟨rfl, rfl⟩)
theorem g12 : false = Rows.fnGetReturnsLastPairForNameRow.goesBy Tryd.pinned.checked.prog := by kernel_rfl
theorem m12 : Tryd.pinned.checked.prog.mainIs = some (true, "ee25640a3dc0fcee5120d1279d7327be0fc51416bdba84cf9db9129713781560".toList) := by kernel_rfl
theorem wf12 : Rows.fnGetReturnsLastPairForNameRow.wfByText (OpenSpec.ofChange Rows.fnGetReturnsLastPairForNameSpec) = true := by kernel_rfl
theorem looks12 : false = Tryd.pinned.checked.prog.looks [] := by kernel_rfl
theorem want12 : ([22, 9].all fun u => !Tryd.prog.wantsStandIn u) = true := by kernel_rfl

theorem said12 : Rows.FnGetReturnsLastPairForNameSaid :=
  OpenClaim.holds_of_wide 12 Tryd.f12 rfl rfl rfl rfl rfl rfl rfl ⟨rfl, rfl, rfl, rfl, rfl⟩ rfl rfl rfl rfl rfl n12 Tryd.func12 j12 i12 w12
    (fun os started H enc _ => lifted12 os started H enc)
theorem plain12 (f : FuncId) (fn : Func) (hf : Tryd.pinned.checked.prog.funcNamed Rows.fnGetReturnsLastPairForNameRow.func = some f) (hfn : Tryd.pinned.checked.prog.funcs[f]? = some fn) :
    false = Tryd.pinned.checked.prog.looks [] ∧ ∀ (j : Nat) t, fn.params[j]? = some t → Tryd.pinned.checked.prog.wantsStandIn t = false := by
  obtain rfl : f = 12 := (Option.some.inj (n12.symm.trans hf)).symm
  obtain rfl : fn = Tryd.f12 := (Option.some.inj (Tryd.func12.symm.trans hfn)).symm
  refine ⟨looks12, fun j t ht => ?_⟩
  rw [Tryd.params12] at ht
  have hm : t ∈ [22, 9] := by simpa using Array.mem_of_getElem? ht
  exact (show Tryd.prog.wantsStandIn t = false by simpa using List.all_eq_true.1 want12 t hm)
theorem card12 : Rows.FnGetReturnsLastPairForNameCardSaid :=
  Claim7.holds_tied_plain_at .later [] _ _ _ _ said12 (fun _ h => by cases h) wf12 (fun _ h => by cases h) fnGetReturnsLastPairForName_row_tie rfl ⟨rfl, rfl⟩ m12 rfl plain12 g12
#print axioms card12
end Go.Proofs.YthihppocokkoiaaDoor
