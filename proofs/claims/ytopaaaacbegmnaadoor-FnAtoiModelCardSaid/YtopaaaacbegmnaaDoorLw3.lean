/-
  The walk of FnAtoiModel. Conditions: those in each theorem.
-/
import Derived.Test.YtopaaaacbegmnaaDoorM9Z
namespace Go.Proofs.YtopaaaacbegmnaaDoor
set_option linter.unusedVariables false
open Go.Shelf Go.RowKit Go.Lib

theorem bytes6_ok (s : ByteArray) (hs : (s.size : Int) ≤ 1048576) (w : World) : Calls Tryd.prog 6 #[.string s] w fun e w' => e = .returned (.bool true) ∧ w = w' := by
  go_enter Tryd.func6, Tryd.ntmps6
  go_wp2
  go_ret
  exact ⟨rfl, rfl⟩
set_option maxRecDepth 100000 in
set_option maxHeartbeats 1500000 in
theorem law3 (s : ByteArray) (w : World) (hT : AtT w) : Calls Tryd.prog 3 #[.string s] w fun e w' => e = .returned (.bool true) ∧ Below w.heap.size w w' := by
  have B6 := Lib.hid (bytes6 s w)
  have HT := Lib.hid hT
  clear hT
  by_cases g1 : (65536 : Int) < (s.size : Int)
  · go_enter Tryd.func3, Tryd.ntmps3
    go_wp2_with (go_at_call 6; refine B6.out.mono ?_; rintro e w' ⟨⟨b, rfl, _⟩, hw⟩; subst hw)
    all_goals (go_ret; exact ⟨rfl, Below.refl _ _⟩)
  have hs : s.size ≤ 1073741824 := by omega
  have B6 := Lib.hid (bytes6_ok s (by omega) w)
  have A7 := Lib.hid (ascii7 s hs w)
  obtain ⟨z, hz⟩ : ∃ z, z = atD (trimSpaceD s.data.toList) := ⟨_, rfl⟩
  have D8 := Lib.hid (door8 s w HT.out hs)
  have M9 : Hid ((∀ c ∈ s.data.toList, c.toNat < 128) → ∀ W, Calls Tryd.prog 9 #[.string s] W fun e w' => e = .returned (.int .i64 z) ∧ W = w') := Lib.hid fun ha W => by rw [hz]; exact model9 s W hs ha
  rw [← hz] at D8
  have heq : (z == z) = true := by simp
  clear hz
  go_enter Tryd.func3, Tryd.ntmps3
  go_wp2_with (first | (go_at_call 6; refine B6.out.mono ?_; rintro e w' ⟨rfl, hw⟩; subst hw))
  refine A7.out.mono ?_
  rintro e w' ⟨⟨c, rfl, hc⟩, hw⟩
  subst hw
  cases c with
  | false =>
    go_wp2
    go_ret
    exact ⟨rfl, Below.refl _ _⟩
  | true =>
    have HC := Lib.hid (hc rfl)
    clear hc A7
    go_wp2_with (first | (go_at_call 8; refine D8.out.mono ?_; rintro e w1 ⟨rfl, hb⟩; have HB := Lib.hid hb; clear hb D8) | (go_at_call 9; refine (M9.out HC.out _).mono ?_; rintro e w2 ⟨rfl, hw⟩; subst hw))
    go_ret
    exact ⟨rfl, HB.out⟩
end Go.Proofs.YtopaaaacbegmnaaDoor
