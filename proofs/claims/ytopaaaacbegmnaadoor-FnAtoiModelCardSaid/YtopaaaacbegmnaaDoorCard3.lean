/-
  PROVED HERE: whatever the arguments, the law FnAtoiModel returns true and leaves its arguments alone: the tied card 'Rows.FnAtoiModelCardSaid'. No condition of ours; what the row lists is laid in the witness.
-/
import Derived.Test.YtopaaaacbegmnaaDoorLift3
import Derived.Test.YtopaaaacbegmnaaDoorJ3
namespace Go.Proofs.YtopaaaacbegmnaaDoor
open Go.ChangeShapes Go.WideShapes Go.ChangeAt Go.RowKit
set_option maxRecDepth 100000
set_option maxHeartbeats 4000000

theorem n3 : Tryd.prog.funcNamed "mvdan.cc/sh/v3/n010_54.FnAtoiModel" = some 3 := by kernel_rfl
theorem i3 : Tryd.f3.isInstance Tryd.pinned.checked.prog Rows.fnAtoiModelRow.origin Rows.fnAtoiModelRow.targs := of_decide_eq_true (by kernel_rfl)
theorem w3 : Tryd.f3.isWrapper Tryd.pinned.checked.prog Rows.fnAtoiModelRow.wrapper Rows.fnAtoiModelRow.mainSum := by unfold Func.isWrapper; first | (rw [if_pos (by decide +kernel)]; kernel_rfl) | (rw [if_neg (by decide +kernel)]; exact ⟨rfl, rfl⟩)
theorem g3 : false = Rows.fnAtoiModelRow.goesBy Tryd.pinned.checked.prog := by kernel_rfl
theorem wf3 : Rows.fnAtoiModelRow.wfByText (OpenSpec.ofChange Rows.fnAtoiModelSpec) = true := by kernel_rfl
theorem want3 : ([9].all fun u => !Tryd.prog.wantsStandIn u) = true := by kernel_rfl

theorem said3 : Rows.FnAtoiModelSaid :=
  OpenClaim.holds_of_wide 3 Tryd.f3 rfl rfl rfl rfl rfl rfl rfl ⟨rfl, rfl, rfl, rfl, rfl⟩ rfl rfl rfl rfl rfl n3 Tryd.func3 j3 i3 w3
    (fun os started H enc _ => lifted3 os started H enc)
theorem plain3 (f : FuncId) (fn : Func) (hf : Tryd.pinned.checked.prog.funcNamed Rows.fnAtoiModelRow.func = some f) (hfn : Tryd.pinned.checked.prog.funcs[f]? = some fn) :
    true = Tryd.pinned.checked.prog.looks [] ∧ ∀ (j : Nat) t, fn.params[j]? = some t → Tryd.pinned.checked.prog.wantsStandIn t = false := by
  obtain rfl : f = 3 := (Option.some.inj (n3.symm.trans hf)).symm
  obtain rfl : fn = Tryd.f3 := (Option.some.inj (Tryd.func3.symm.trans hfn)).symm
  refine ⟨big_looks, fun j t ht => ?_⟩
  rw [Tryd.params3] at ht
  have hm : t ∈ [9] := by simpa using Array.mem_of_getElem? ht
  exact (show Tryd.prog.wantsStandIn t = false by simpa using List.all_eq_true.1 want3 t hm)
theorem card3 : Rows.FnAtoiModelCardSaid :=
  Claim7.holds_tied_plain_at .later [] _ _ _ _ said3 (fun _ h => by cases h) wf3 (fun _ h => by cases h) fnAtoiModel_row_tie rfl ⟨rfl, rfl⟩ big_main rfl plain3 g3
#print axioms card3
end Go.Proofs.YtopaaaacbegmnaaDoor
