/-
  PROVED HERE: whatever the arguments, the law FnNamesByPrefixRefines returns true and leaves its arguments alone: the tied card 'Rows.FnNamesByPrefixRefinesCardSaid'. No condition of ours; the three tables that the row lists are laid in the witness alone, the walk reads none.
-/
import Derived.Test.YtmbjhfkpmgkkbaaGreatDoorLift4
import Derived.Test.YtmbjhfkpmgkkbaaGreatDoorJ4
namespace Go.Proofs.YtmbjhfkpmgkkbaaGreatDoor
open Go.ChangeShapes Go.WideShapes Go.ChangeAt Go.RowKit
set_option maxRecDepth 100000
set_option maxHeartbeats 4000000

theorem n4 : Tryz.prog.funcNamed "mvdan.cc/sh/v3/n010_22.FnNamesByPrefixRefines" = some 4 := by kernel_rfl
theorem i4 : Tryz.f4.isInstance Tryz.pinned.checked.prog Rows.fnNamesByPrefixRefinesRow.origin Rows.fnNamesByPrefixRefinesRow.targs := of_decide_eq_true (by kernel_rfl)
theorem w4 : Tryz.f4.isWrapper Tryz.pinned.checked.prog Rows.fnNamesByPrefixRefinesRow.wrapper Rows.fnNamesByPrefixRefinesRow.mainSum := by unfold Func.isWrapper; first | (rw [if_pos (by decide +kernel)]; kernel_rfl) | (rw [if_neg (by decide +kernel)]; exact ⟨rfl, rfl⟩)
theorem g4 : false = Rows.fnNamesByPrefixRefinesRow.goesBy Tryz.pinned.checked.prog := by kernel_rfl
theorem wf4 : Rows.fnNamesByPrefixRefinesRow.wfByText (OpenSpec.ofChange Rows.fnNamesByPrefixRefinesSpec) = true := by kernel_rfl
theorem want4 : ([22, 9, 9].all fun u => !Tryz.prog.wantsStandIn u) = true := by kernel_rfl

theorem said4 : Rows.FnNamesByPrefixRefinesSaid :=
  OpenClaim.holds_of_wide 4 Tryz.f4 rfl rfl rfl rfl rfl rfl rfl ⟨rfl, rfl, rfl, rfl, rfl⟩ rfl rfl rfl rfl rfl n4 Tryz.func4 j4 i4 w4
    (fun os started H enc _ => lifted4 os started H enc)
theorem plain4 (f : FuncId) (fn : Func) (hf : Tryz.pinned.checked.prog.funcNamed Rows.fnNamesByPrefixRefinesRow.func = some f) (hfn : Tryz.pinned.checked.prog.funcs[f]? = some fn) :
    false = Tryz.pinned.checked.prog.looks [] ∧ ∀ (j : Nat) t, fn.params[j]? = some t → Tryz.pinned.checked.prog.wantsStandIn t = false := by
  obtain rfl : f = 4 := (Option.some.inj (n4.symm.trans hf)).symm
  obtain rfl : fn = Tryz.f4 := (Option.some.inj (Tryz.func4.symm.trans hfn)).symm
  refine ⟨big_looks, fun j t ht => ?_⟩
  rw [Tryz.params4] at ht
  have hm : t ∈ [22, 9, 9] := by simpa using Array.mem_of_getElem? ht
  exact (show Tryz.prog.wantsStandIn t = false by simpa using List.all_eq_true.1 want4 t hm)
theorem card4 : Rows.FnNamesByPrefixRefinesCardSaid :=
  Claim7.holds_tied_plain_at .later [] _ _ _ _ said4 (fun _ h => by cases h) wf4 (fun _ h => by cases h) fnNamesByPrefixRefines_row_tie rfl ⟨rfl, rfl⟩ big_main rfl plain4 g4
#print axioms card4
end Go.Proofs.YtmbjhfkpmgkkbaaGreatDoor
