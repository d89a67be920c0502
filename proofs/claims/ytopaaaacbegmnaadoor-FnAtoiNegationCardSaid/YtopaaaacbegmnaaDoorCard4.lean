/-
  PROVED HERE: whatever the arguments, the law FnAtoiNegation returns true and leaves its arguments alone: the tied card 'Rows.FnAtoiNegationCardSaid'. No condition of ours; what the row lists is laid in the witness.
-/
import Derived.Test.YtopaaaacbegmnaaDoorLift4
import Derived.Test.YtopaaaacbegmnaaDoorJ4
namespace Go.Proofs.YtopaaaacbegmnaaDoor
open Go.ChangeShapes Go.WideShapes Go.ChangeAt Go.RowKit
set_option maxRecDepth 100000
set_option maxHeartbeats 4000000

theorem n4 : Tryd.prog.funcNamed "mvdan.cc/sh/v3/n010_54.FnAtoiNegation" = some 4 := by kernel_rfl
theorem i4 : Tryd.f4.isInstance Tryd.pinned.checked.prog Rows.fnAtoiNegationRow.origin Rows.fnAtoiNegationRow.targs := of_decide_eq_true (by kernel_rfl)
theorem w4 : Tryd.f4.isWrapper Tryd.pinned.checked.prog Rows.fnAtoiNegationRow.wrapper Rows.fnAtoiNegationRow.mainSum := by unfold Func.isWrapper; first | (rw [if_pos (by decide +kernel)]; kernel_rfl) | (rw [if_neg (by decide +kernel)]; exact ⟨rfl, rfl⟩)
theorem g4 : false = Rows.fnAtoiNegationRow.goesBy Tryd.pinned.checked.prog := by kernel_rfl
theorem wf4 : Rows.fnAtoiNegationRow.wfByText (OpenSpec.ofChange Rows.fnAtoiNegationSpec) = true := by kernel_rfl
theorem want4 : ([9].all fun u => !Tryd.prog.wantsStandIn u) = true := by kernel_rfl

theorem said4 : Rows.FnAtoiNegationSaid :=
  OpenClaim.holds_of_wide 4 Tryd.f4 rfl rfl rfl rfl rfl rfl rfl ⟨rfl, rfl, rfl, rfl, rfl⟩ rfl rfl rfl rfl rfl n4 Tryd.func4 j4 i4 w4
    (fun os started H enc _ => lifted4 os started H enc)
theorem plain4 (f : FuncId) (fn : Func) (hf : Tryd.pinned.checked.prog.funcNamed Rows.fnAtoiNegationRow.func = some f) (hfn : Tryd.pinned.checked.prog.funcs[f]? = some fn) :
    true = Tryd.pinned.checked.prog.looks [] ∧ ∀ (j : Nat) t, fn.params[j]? = some t → Tryd.pinned.checked.prog.wantsStandIn t = false := by
  obtain rfl : f = 4 := (Option.some.inj (n4.symm.trans hf)).symm
  obtain rfl : fn = Tryd.f4 := (Option.some.inj (Tryd.func4.symm.trans hfn)).symm
  refine ⟨big_looks, fun j t ht => ?_⟩
  rw [Tryd.params4] at ht
  have hm : t ∈ [9] := by simpa using Array.mem_of_getElem? ht
  exact (show Tryd.prog.wantsStandIn t = false by simpa using List.all_eq_true.1 want4 t hm)
theorem card4 : Rows.FnAtoiNegationCardSaid :=
  Claim7.holds_tied_plain_at .later [] _ _ _ _ said4 (fun _ h => by cases h) wf4 (fun _ h => by cases h) fnAtoiNegation_row_tie rfl ⟨rfl, rfl⟩ big_main rfl plain4 g4
#print axioms card4
end Go.Proofs.YtopaaaacbegmnaaDoor
