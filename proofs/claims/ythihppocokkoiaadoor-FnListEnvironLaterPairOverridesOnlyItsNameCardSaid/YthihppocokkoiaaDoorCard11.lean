/-
  PROVED HERE: whatever the arguments, the law FnListEnvironLaterPairOverridesOnlyItsName returns true and leaves its arguments alone: the tied card 'Rows.FnListEnvironLaterPairOverridesOnlyItsNameCardSaid'. No condition of ours; the three tables that the row lists are laid in the witness alone, the walk reads none.
-/
import Derived.Test.YthihppocokkoiaaDoorLift11
import Derived.Test.YthihppocokkoiaaDoorJ11
namespace Go.Proofs.YthihppocokkoiaaDoor
open Go.ChangeShapes Go.WideShapes Go.ChangeAt Go.RowKit
set_option maxRecDepth 100000
set_option maxHeartbeats 4000000

theorem n11 : Tryd.prog.funcNamed "mvdan.cc/sh/v3/n010_48.FnListEnvironLaterPairOverridesOnlyItsName" = some 11 := by kernel_rfl
theorem i11 : Tryd.f11.isInstance Tryd.pinned.checked.prog Rows.fnListEnvironLaterPairOverridesOnlyItsNameRow.origin Rows.fnListEnvironLaterPairOverridesOnlyItsNameRow.targs := of_decide_eq_true (by kernel_rfl)
theorem w11 : Tryd.f11.isWrapper Tryd.pinned.checked.prog Rows.fnListEnvironLaterPairOverridesOnlyItsNameRow.wrapper Rows.fnListEnvironLaterPairOverridesOnlyItsNameRow.mainSum := by unfold Func.isWrapper; first | (rw [if_pos (by decide +kernel)]; kernel_rfl) | (rw [if_neg (by decide +kernel)]; exact ⟨rfl, rfl⟩)
theorem g11 : false = Rows.fnListEnvironLaterPairOverridesOnlyItsNameRow.goesBy Tryd.pinned.checked.prog := by kernel_rfl
theorem wf11 : Rows.fnListEnvironLaterPairOverridesOnlyItsNameRow.wfByText (OpenSpec.ofChange Rows.fnListEnvironLaterPairOverridesOnlyItsNameSpec) = true := by kernel_rfl
theorem want11 : ([22, 9, 9, 9].all fun u => !Tryd.prog.wantsStandIn u) = true := by kernel_rfl

theorem said11 : Rows.FnListEnvironLaterPairOverridesOnlyItsNameSaid :=
  OpenClaim.holds_of_wide 11 Tryd.f11 rfl rfl rfl rfl rfl rfl rfl ⟨rfl, rfl, rfl, rfl, rfl⟩ rfl rfl rfl rfl rfl n11 Tryd.func11 j11 i11 w11
    (fun os started H enc _ => lifted11 os started H enc)
theorem plain11 (f : FuncId) (fn : Func) (hf : Tryd.pinned.checked.prog.funcNamed Rows.fnListEnvironLaterPairOverridesOnlyItsNameRow.func = some f) (hfn : Tryd.pinned.checked.prog.funcs[f]? = some fn) :
    false = Tryd.pinned.checked.prog.looks [] ∧ ∀ (j : Nat) t, fn.params[j]? = some t → Tryd.pinned.checked.prog.wantsStandIn t = false := by
  obtain rfl : f = 11 := (Option.some.inj (n11.symm.trans hf)).symm
  obtain rfl : fn = Tryd.f11 := (Option.some.inj (Tryd.func11.symm.trans hfn)).symm
  refine ⟨big_looks, fun j t ht => ?_⟩
  rw [Tryd.params11] at ht
  have hm : t ∈ [22, 9, 9, 9] := by simpa using Array.mem_of_getElem? ht
  exact (show Tryd.prog.wantsStandIn t = false by simpa using List.all_eq_true.1 want11 t hm)
theorem card11 : Rows.FnListEnvironLaterPairOverridesOnlyItsNameCardSaid :=
  Claim7.holds_tied_plain_at .later [] _ _ _ _ said11 (fun _ h => by cases h) wf11 (fun _ h => by cases h) fnListEnvironLaterPairOverridesOnlyItsName_row_tie rfl ⟨rfl, rfl⟩ big_main rfl plain11 g11
#print axioms card11
end Go.Proofs.YthihppocokkoiaaDoor
