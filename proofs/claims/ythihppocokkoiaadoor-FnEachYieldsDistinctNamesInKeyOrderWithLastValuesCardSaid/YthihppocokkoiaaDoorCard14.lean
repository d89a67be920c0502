/-
  PROVED HERE: whatever the arguments, the law FnEachYieldsDistinctNamesInKeyOrderWithLastValues returns true and leaves its arguments alone: the tied card 'Rows.FnEachYieldsDistinctNamesInKeyOrderWithLastValuesCardSaid'. No condition of ours; the three tables that the row lists are laid in the witness alone, the walk reads none.
-/
import Derived.Test.YthihppocokkoiaaDoorLift14
import Derived.Test.YthihppocokkoiaaDoorJ14
namespace Go.Proofs.YthihppocokkoiaaDoor
open Go.ChangeShapes Go.WideShapes Go.ChangeAt Go.RowKit
set_option maxRecDepth 100000
set_option maxHeartbeats 4000000

theorem n14 : Tryd.prog.funcNamed "mvdan.cc/sh/v3/n010_50.FnEachYieldsDistinctNamesInKeyOrderWithLastValues" = some 14 := by kernel_rfl
theorem i14 : Tryd.f14.isInstance Tryd.pinned.checked.prog Rows.fnEachYieldsDistinctNamesInKeyOrderWithLastValuesRow.origin Rows.fnEachYieldsDistinctNamesInKeyOrderWithLastValuesRow.targs := of_decide_eq_true (by kernel_rfl)
theorem w14 : Tryd.f14.isWrapper Tryd.pinned.checked.prog Rows.fnEachYieldsDistinctNamesInKeyOrderWithLastValuesRow.wrapper Rows.fnEachYieldsDistinctNamesInKeyOrderWithLastValuesRow.mainSum := by unfold Func.isWrapper; first | (rw [if_pos (by decide +kernel)]; kernel_rfl) | (rw [if_neg (by decide +kernel)]; exact ⟨rfl, rfl⟩)
theorem g14 : false = Rows.fnEachYieldsDistinctNamesInKeyOrderWithLastValuesRow.goesBy Tryd.pinned.checked.prog := by kernel_rfl
theorem wf14 : Rows.fnEachYieldsDistinctNamesInKeyOrderWithLastValuesRow.wfByText (OpenSpec.ofChange Rows.fnEachYieldsDistinctNamesInKeyOrderWithLastValuesSpec) = true := by kernel_rfl
theorem want14 : ([22].all fun u => !Tryd.prog.wantsStandIn u) = true := by kernel_rfl

theorem said14 : Rows.FnEachYieldsDistinctNamesInKeyOrderWithLastValuesSaid :=
  OpenClaim.holds_of_wide 14 Tryd.f14 rfl rfl rfl rfl rfl rfl rfl ⟨rfl, rfl, rfl, rfl, rfl⟩ rfl rfl rfl rfl rfl n14 Tryd.func14 j14 i14 w14
    (fun os started H enc _ => lifted14 os started H enc)
theorem plain14 (f : FuncId) (fn : Func) (hf : Tryd.pinned.checked.prog.funcNamed Rows.fnEachYieldsDistinctNamesInKeyOrderWithLastValuesRow.func = some f) (hfn : Tryd.pinned.checked.prog.funcs[f]? = some fn) :
    false = Tryd.pinned.checked.prog.looks [] ∧ ∀ (j : Nat) t, fn.params[j]? = some t → Tryd.pinned.checked.prog.wantsStandIn t = false := by
  obtain rfl : f = 14 := (Option.some.inj (n14.symm.trans hf)).symm
  obtain rfl : fn = Tryd.f14 := (Option.some.inj (Tryd.func14.symm.trans hfn)).symm
  refine ⟨big_looks, fun j t ht => ?_⟩
  rw [Tryd.params14] at ht
  have hm : t ∈ [22] := by simpa using Array.mem_of_getElem? ht
  exact (show Tryd.prog.wantsStandIn t = false by simpa using List.all_eq_true.1 want14 t hm)
theorem card14 : Rows.FnEachYieldsDistinctNamesInKeyOrderWithLastValuesCardSaid :=
  Claim7.holds_tied_plain_at .later [] _ _ _ _ said14 (fun _ h => by cases h) wf14 (fun _ h => by cases h) fnEachYieldsDistinctNamesInKeyOrderWithLastValues_row_tie rfl ⟨rfl, rfl⟩ big_main rfl plain14 g14
#print axioms card14
end Go.Proofs.YthihppocokkoiaaDoor
