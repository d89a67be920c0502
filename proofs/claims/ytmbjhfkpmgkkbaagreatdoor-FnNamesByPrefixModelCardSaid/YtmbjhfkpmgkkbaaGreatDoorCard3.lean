/-
  PROVED HERE: whatever the arguments, the law FnNamesByPrefixModel returns true and leaves its arguments alone: the tied card 'Rows.FnNamesByPrefixModelCardSaid'. No condition of ours; the three tables that the row lists are laid in the witness alone, the walk reads none.
-/
import Derived.Test.YtmbjhfkpmgkkbaaGreatDoorLift3
import Derived.Test.YtmbjhfkpmgkkbaaGreatDoorJ3
namespace Go.Proofs.YtmbjhfkpmgkkbaaGreatDoor
open Go.ChangeShapes Go.WideShapes Go.ChangeAt Go.RowKit
set_option maxRecDepth 100000
set_option maxHeartbeats 4000000

theorem n3 : Tryz.prog.funcNamed "mvdan.cc/sh/v3/n010_22.FnNamesByPrefixModel" = some 3 := by kernel_rfl
theorem i3 : Tryz.f3.isInstance Tryz.pinned.checked.prog Rows.fnNamesByPrefixModelRow.origin Rows.fnNamesByPrefixModelRow.targs := of_decide_eq_true (by kernel_rfl)
theorem w3 : Tryz.f3.isWrapper Tryz.pinned.checked.prog Rows.fnNamesByPrefixModelRow.wrapper Rows.fnNamesByPrefixModelRow.mainSum := by unfold Func.isWrapper; first | (rw [if_pos (by decide +kernel)]; kernel_rfl) | (rw [if_neg (by decide +kernel)]; exact ⟨rfl, rfl⟩)
theorem g3 : false = Rows.fnNamesByPrefixModelRow.goesBy Tryz.pinned.checked.prog := by kernel_rfl
theorem wf3 : Rows.fnNamesByPrefixModelRow.wfByText (OpenSpec.ofChange Rows.fnNamesByPrefixModelSpec) = true := by kernel_rfl
theorem want3 : ([22, 9].all fun u => !Tryz.prog.wantsStandIn u) = true := by kernel_rfl

theorem said3 : Rows.FnNamesByPrefixModelSaid :=
  OpenClaim.holds_of_wide 3 Tryz.f3 rfl rfl rfl rfl rfl rfl rfl ⟨rfl, rfl, rfl, rfl, rfl⟩ rfl rfl rfl rfl rfl n3 Tryz.func3 j3 i3 w3
    (fun os started H enc _ => lifted3 os started H enc)
theorem plain3 (f : FuncId) (fn : Func) (hf : Tryz.pinned.checked.prog.funcNamed Rows.fnNamesByPrefixModelRow.func = some f) (hfn : Tryz.pinned.checked.prog.funcs[f]? = some fn) :
    false = Tryz.pinned.checked.prog.looks [] ∧ ∀ (j : Nat) t, fn.params[j]? = some t → Tryz.pinned.checked.prog.wantsStandIn t = false := by
  obtain rfl : f = 3 := (Option.some.inj (n3.symm.trans hf)).symm
  obtain rfl : fn = Tryz.f3 := (Option.some.inj (Tryz.func3.symm.trans hfn)).symm
  refine ⟨big_looks, fun j t ht => ?_⟩
  rw [Tryz.params3] at ht
  have hm : t ∈ [22, 9] := by simpa using Array.mem_of_getElem? ht
  exact (show Tryz.prog.wantsStandIn t = false by simpa using List.all_eq_true.1 want3 t hm)
theorem card3 : Rows.FnNamesByPrefixModelCardSaid :=
  Claim7.holds_tied_plain_at .later [] _ _ _ _ said3 (fun _ h => by cases h) wf3 (fun _ h => by cases h) fnNamesByPrefixModel_row_tie rfl ⟨rfl, rfl⟩ big_main rfl plain3 g3
#print axioms card3
end Go.Proofs.YtmbjhfkpmgkkbaaGreatDoor
