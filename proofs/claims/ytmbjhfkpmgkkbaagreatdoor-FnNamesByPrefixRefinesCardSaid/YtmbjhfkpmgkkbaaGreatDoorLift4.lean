/-
  THE STEP TOWARDS THE CARD: whatever the arguments, the law FnNamesByPrefixRefines returns true and leaves its arguments alone: the tied card 'Rows.FnNamesByPrefixRefinesCardSaid'. No condition of ours; the three tables that the row lists are laid in the witness alone, the walk reads none.
-/
import Derived.Test.YtmbjhfkpmgkkbaaGreatDoorL4
import Derived.Test.YtmbjhfkpmgkkbaaGreatDoorOpen
namespace Go.Proofs.YtmbjhfkpmgkkbaaGreatDoor
set_option linter.unusedVariables false
open Go.ChangeShapes Go.WideShapes Go.ChangeAt Go.RowKit
open Go.ChangeMaps (open_string shut_string)

set_option maxRecDepth 100000 in
theorem lifted4 (os : Os) (started : os.Started) (H : Type) (enc : TypeId × Value → H) :
    ReturnsInHanded {} Tryz.checked os 4 .any (fun w args => (Rows.fnNamesByPrefixRefinesSpec.pre enc Tryz.prog Tryz.f4 Rows.fnNamesByPrefixRefinesRow.domain false w args ∧ laidMetH Tryz.prog Rows.fnNamesByPrefixRefinesRow.laid w) ∧ sizedMet enc Tryz.prog Tryz.f4 (OpenSpec.ofChange Rows.fnNamesByPrefixRefinesSpec) false w args)
      (Rows.fnNamesByPrefixRefinesSpec.post enc Tryz.prog Tryz.f4 false true false false) := by
  refine returnsInHanded_of_change_and (C := Tryz.checked) (X := fun w _ => laidMetH Tryz.prog Rows.fnNamesByPrefixRefinesRow.laid w) (fun _ _ _ hh h => h.of_heap hh) own started (by kernel_rfl) Tryz.func4
    (ChangeSpec.witness_shaped (enc := enc) (C := Tryz.checked) (os := os) (X := fun w _ => laidMetH Tryz.prog Rows.fnNamesByPrefixRefinesRow.laid w) false (World.laidAll Tryz.prog os Rows.fnNamesByPrefixRefinesRow.laid) #[.slice none 0 0, .string ⟨#[]⟩, .string ⟨#[]⟩] 8 (World.laidAll_os _ _ _)
      (World.shaped_of_ZipB (by kernel_rfl) (by kernel_rfl)) (by kernel_rfl) (by kernel_rfl) (by kernel_rfl)
      (by rw [MakeChecks.laidMetH_plain _ _ _ (by kernel_rfl)]; exact laidMet_laidAll _ (by kernel_rfl) (by kernel_rfl))) ?_
  intro W base args ds gs before hval0 hW _ _ hL _
  have hval : ∀ (j : Nat) t v, Tryz.f4.params[j]? = some t → args[j]? = some v → Value.okWide Tryz.prog W .any base t v := hval0
  have hW' := hW
  obtain ⟨p, q, hA0, hV, rfl, _, _⟩ := hW
  have hA : DataW.TrodAll enc Tryz.prog W 0 (fun _ => true) true Tryz.f4.params.toList args.toList ds p := hA0
  rw [Tryz.params4] at hA hval
  obtain ⟨v0, v1, v2, d0, d1, d2, p0, p1, p2, rfl, rfl, rfl, h0, h1, h2⟩ := trodAll_three hA
  obtain ⟨rfl, rfl⟩ := trodVars_none hV
  clear hA0 hval0
  simp only [List.append_nil] at hW'
  have hltA : ∀ x ∈ p0 ++ (p1 ++ p2), x.block < W.heap.size := fun x hx => hW'.lt x (by simpa using hx)
  have hlt0 : ∀ x ∈ p0, x.block < W.heap.size := fun x hx => hltA x (by simp [hx])
  have k0 := fun (W' : World) (hb : Below W.heap.size W W') => Below.trod laidOut (by kernel_rfl) (of_decide_eq_true (by kernel_rfl)) h0 hb hlt0
  obtain ⟨a0, c0, P0, rfl, hT0⟩ := texts_of (hval 0 22 v0 rfl rfl) h0 hlt0
  obtain ⟨s1, rfl, rfl, rfl, hs1⟩ := open_string Tryz.underlying9 (hval 1 9 v1 rfl rfl) h1
  obtain ⟨s2, rfl, rfl, rfl, hs2⟩ := open_string Tryz.underlying9 (hval 2 9 v2 rfl rfl) h2
  refine (law4 a0 c0 P0 s1 s2 W hT0).mono fun e W' ⟨he, bel⟩ => ?_
  subst he
  exact ⟨_, rfl, _, _, _, [], _, [], hW', trodAll_mk1 (shut_bool Tryz.underlying4 _), trodAll_mk3 (k0 W' bel) (shut_string Tryz.underlying9 hs1) (shut_string Tryz.underlying9 hs2), rfl, bel.frame _, fun h => by cases h⟩

end Go.Proofs.YtmbjhfkpmgkkbaaGreatDoor
