/-
  PROVED HERE: whatever the arguments, the law FnListEnvironCaseInsensitiveGetFoldsASCII returns true and leaves its arguments alone: the tied card 'Rows.FnListEnvironCaseInsensitiveGetFoldsASCIICardSaid'. No condition of ours; the three tables that the row lists are laid in the witness alone, the walk reads none.
-/
import Derived.Test.YthihppocokkoiaaDoorLift6
import Derived.Test.YthihppocokkoiaaDoorJ6
namespace Go.Proofs.YthihppocokkoiaaDoor
open Go.ChangeShapes Go.WideShapes Go.ChangeAt Go.RowKit
set_option maxRecDepth 100000
set_option maxHeartbeats 4000000

theorem n6 : Tryd.prog.funcNamed "mvdan.cc/sh/v3/n010_48.FnListEnvironCaseInsensitiveGetFoldsASCII" = some 6 := by kernel_rfl
theorem i6 : Tryd.f6.isInstance Tryd.pinned.checked.prog Rows.fnListEnvironCaseInsensitiveGetFoldsASCIIRow.origin Rows.fnListEnvironCaseInsensitiveGetFoldsASCIIRow.targs := of_decide_eq_true (by kernel_rfl)
theorem w6 : Tryd.f6.isWrapper Tryd.pinned.checked.prog Rows.fnListEnvironCaseInsensitiveGetFoldsASCIIRow.wrapper Rows.fnListEnvironCaseInsensitiveGetFoldsASCIIRow.mainSum := by unfold Func.isWrapper; first | (rw [if_pos (by decide +kernel)]; kernel_rfl) | (rw [if_neg (by decide +kernel)]; exact ⟨rfl, rfl⟩)
theorem g6 : false = Rows.fnListEnvironCaseInsensitiveGetFoldsASCIIRow.goesBy Tryd.pinned.checked.prog := by kernel_rfl
theorem wf6 : Rows.fnListEnvironCaseInsensitiveGetFoldsASCIIRow.wfByText (OpenSpec.ofChange Rows.fnListEnvironCaseInsensitiveGetFoldsASCIISpec) = true := by kernel_rfl
theorem want6 : ([22, 9].all fun u => !Tryd.prog.wantsStandIn u) = true := by kernel_rfl

theorem said6 : Rows.FnListEnvironCaseInsensitiveGetFoldsASCIISaid :=
  OpenClaim.holds_of_wide 6 Tryd.f6 rfl rfl rfl rfl rfl rfl rfl ⟨rfl, rfl, rfl, rfl, rfl⟩ rfl rfl rfl rfl rfl n6 Tryd.func6 j6 i6 w6
    (fun os started H enc _ => lifted6 os started H enc)
theorem plain6 (f : FuncId) (fn : Func) (hf : Tryd.pinned.checked.prog.funcNamed Rows.fnListEnvironCaseInsensitiveGetFoldsASCIIRow.func = some f) (hfn : Tryd.pinned.checked.prog.funcs[f]? = some fn) :
    false = Tryd.pinned.checked.prog.looks [] ∧ ∀ (j : Nat) t, fn.params[j]? = some t → Tryd.pinned.checked.prog.wantsStandIn t = false := by
  obtain rfl : f = 6 := (Option.some.inj (n6.symm.trans hf)).symm
  obtain rfl : fn = Tryd.f6 := (Option.some.inj (Tryd.func6.symm.trans hfn)).symm
  refine ⟨big_looks, fun j t ht => ?_⟩
  rw [Tryd.params6] at ht
  have hm : t ∈ [22, 9] := by simpa using Array.mem_of_getElem? ht
  exact (show Tryd.prog.wantsStandIn t = false by simpa using List.all_eq_true.1 want6 t hm)
theorem card6 : Rows.FnListEnvironCaseInsensitiveGetFoldsASCIICardSaid :=
  Claim7.holds_tied_plain_at .later [] _ _ _ _ said6 (fun _ h => by cases h) wf6 (fun _ h => by cases h) fnListEnvironCaseInsensitiveGetFoldsASCII_row_tie rfl ⟨rfl, rfl⟩ big_main rfl plain6 g6
#print axioms card6
end Go.Proofs.YthihppocokkoiaaDoor
