/-
  THE STEP TOWARDS THE CARD: whatever the arguments, the law FnEachYieldsDistinctNamesInKeyOrderWithLastValues returns true and leaves its arguments alone: the tied card 'Rows.FnEachYieldsDistinctNamesInKeyOrderWithLastValuesCardSaid'. No condition of ours; the three tables that the row lists are laid in the witness alone, the walk reads none.
-/
import Derived.Test.YthihppocokkoiaaDoorLw14
import Derived.Test.YthihppocokkoiaaDoorOpen
namespace Go.Proofs.YthihppocokkoiaaDoor
set_option linter.unusedVariables false
open Go.ChangeShapes Go.WideShapes Go.ChangeAt Go.RowKit
open Go.ChangeMaps (open_string shut_string)

set_option maxRecDepth 100000 in
theorem lifted14 (os : Os) (started : os.Started) (H : Type) (enc : TypeId × Value → H) :
    ReturnsInHanded {} Tryd.checked os 14 .any (fun w args => (Rows.fnEachYieldsDistinctNamesInKeyOrderWithLastValuesSpec.pre enc Tryd.prog Tryd.f14 Rows.fnEachYieldsDistinctNamesInKeyOrderWithLastValuesRow.domain false w args ∧ laidMetH Tryd.prog Rows.fnEachYieldsDistinctNamesInKeyOrderWithLastValuesRow.laid w) ∧ sizedMet enc Tryd.prog Tryd.f14 (OpenSpec.ofChange Rows.fnEachYieldsDistinctNamesInKeyOrderWithLastValuesSpec) false w args)
      (Rows.fnEachYieldsDistinctNamesInKeyOrderWithLastValuesSpec.post enc Tryd.prog Tryd.f14 false true false false) := by
  refine returnsInHanded_of_change_and (C := Tryd.checked) (X := fun w _ => laidMetH Tryd.prog Rows.fnEachYieldsDistinctNamesInKeyOrderWithLastValuesRow.laid w) (fun _ _ _ hh h => h.of_heap hh) own started (by kernel_rfl) Tryd.func14
    (ChangeSpec.witness_shaped (enc := enc) (C := Tryd.checked) (os := os) (X := fun w _ => laidMetH Tryd.prog Rows.fnEachYieldsDistinctNamesInKeyOrderWithLastValuesRow.laid w) false (World.laidAll Tryd.prog os Rows.fnEachYieldsDistinctNamesInKeyOrderWithLastValuesRow.laid) #[.slice none 0 0] 8 (World.laidAll_os _ _ _)
      (World.shaped_of_ZipB (by kernel_rfl) (by kernel_rfl)) (by kernel_rfl) (by kernel_rfl) (by kernel_rfl)
      (by rw [MakeChecks.laidMetH_plain _ _ _ (by kernel_rfl)]; exact laidMet_laidAll _ (by kernel_rfl) (by kernel_rfl))) ?_
  intro W base args ds gs before hval0 hW _ _ hL _
  have hval : ∀ (j : Nat) t v, Tryd.f14.params[j]? = some t → args[j]? = some v → Value.okWide Tryd.prog W .any base t v := hval0
  have hW' := hW
  obtain ⟨p, q, hA0, hV, rfl, _, _⟩ := hW
  have hA : DataW.TrodAll enc Tryd.prog W 0 (fun _ => true) true Tryd.f14.params.toList args.toList ds p := hA0
  rw [Tryd.params14] at hA hval
  obtain ⟨v0, d0, rfl, rfl, h0⟩ := trodAll_one hA
  obtain ⟨rfl, rfl⟩ := trodVars_none hV
  clear hA0 hval0
  simp only [List.append_nil] at hW'
  have hltA : ∀ x ∈ p, x.block < W.heap.size := fun x hx => hW'.lt x (by simpa using hx)
  have hlt0 : ∀ x ∈ p, x.block < W.heap.size := fun x hx => hltA x (by simp [hx])
  have k0 := fun (W' : World) (hb : Below W.heap.size W W') => Below.trod laidOut (by kernel_rfl) (of_decide_eq_true (by kernel_rfl)) h0 hb hlt0
  obtain ⟨a0, c0, P0, rfl, hT0⟩ := texts_of (hval 0 22 v0 rfl rfl) h0 hlt0
  refine (law14 a0 c0 P0 W hT0).mono fun e W' ⟨he, bel⟩ => ?_
  subst he
  exact ⟨_, rfl, _, _, _, [], _, [], hW', trodAll_mk1 (shut_bool Tryd.underlying4 _), trodAll_mk1 (k0 W' bel), rfl, bel.frame _, fun h => by cases h⟩

end Go.Proofs.YthihppocokkoiaaDoor
