/-
  PROVED HERE: whatever the arguments, the law FnEachStopsAtFirstFalse returns true and leaves its arguments alone: the tied card 'Rows.FnEachStopsAtFirstFalseCardSaid'. No condition of ours; the three tables that the row lists are laid in the witness alone, the walk reads none.
-/
import Derived.Test.YthihppocokkoiaaDoorLift13
import Derived.Test.YthihppocokkoiaaDoorJ13
namespace Go.Proofs.YthihppocokkoiaaDoor
open Go.ChangeShapes Go.WideShapes Go.ChangeAt Go.RowKit
set_option maxRecDepth 100000
set_option maxHeartbeats 4000000

theorem n13 : Tryd.prog.funcNamed "mvdan.cc/sh/v3/n010_50.FnEachStopsAtFirstFalse" = some 13 := by kernel_rfl
theorem i13 : Tryd.f13.isInstance Tryd.pinned.checked.prog Rows.fnEachStopsAtFirstFalseRow.origin Rows.fnEachStopsAtFirstFalseRow.targs := of_decide_eq_true (by kernel_rfl)
theorem w13 : Tryd.f13.isWrapper Tryd.pinned.checked.prog Rows.fnEachStopsAtFirstFalseRow.wrapper Rows.fnEachStopsAtFirstFalseRow.mainSum := by unfold Func.isWrapper; first | (rw [if_pos (by decide +kernel)]; kernel_rfl) | (rw [if_neg (by decide +kernel)]; exact ⟨rfl, rfl⟩)
theorem g13 : false = Rows.fnEachStopsAtFirstFalseRow.goesBy Tryd.pinned.checked.prog := by kernel_rfl
theorem wf13 : Rows.fnEachStopsAtFirstFalseRow.wfByText (OpenSpec.ofChange Rows.fnEachStopsAtFirstFalseSpec) = true := by kernel_rfl
theorem want13 : ([22, 4, 3].all fun u => !Tryd.prog.wantsStandIn u) = true := by kernel_rfl

theorem said13 : Rows.FnEachStopsAtFirstFalseSaid :=
  OpenClaim.holds_of_wide 13 Tryd.f13 rfl rfl rfl rfl rfl rfl rfl ⟨rfl, rfl, rfl, rfl, rfl⟩ rfl rfl rfl rfl rfl n13 Tryd.func13 j13 i13 w13
    (fun os started H enc _ => lifted13 os started H enc)
theorem plain13 (f : FuncId) (fn : Func) (hf : Tryd.pinned.checked.prog.funcNamed Rows.fnEachStopsAtFirstFalseRow.func = some f) (hfn : Tryd.pinned.checked.prog.funcs[f]? = some fn) :
    false = Tryd.pinned.checked.prog.looks [] ∧ ∀ (j : Nat) t, fn.params[j]? = some t → Tryd.pinned.checked.prog.wantsStandIn t = false := by
  obtain rfl : f = 13 := (Option.some.inj (n13.symm.trans hf)).symm
  obtain rfl : fn = Tryd.f13 := (Option.some.inj (Tryd.func13.symm.trans hfn)).symm
  refine ⟨big_looks, fun j t ht => ?_⟩
  rw [Tryd.params13] at ht
  have hm : t ∈ [22, 4, 3] := by simpa using Array.mem_of_getElem? ht
  exact (show Tryd.prog.wantsStandIn t = false by simpa using List.all_eq_true.1 want13 t hm)
theorem card13 : Rows.FnEachStopsAtFirstFalseCardSaid :=
  Claim7.holds_tied_plain_at .later [] _ _ _ _ said13 (fun _ h => by cases h) wf13 (fun _ h => by cases h) fnEachStopsAtFirstFalse_row_tie rfl ⟨rfl, rfl⟩ big_main rfl plain13 g13
#print axioms card13
end Go.Proofs.YthihppocokkoiaaDoor
