/-
  The walks of Variable.String at the two variables that Get answers, and of the exported door to a Config over a list environment. Conditions: those in each theorem.
-/
import Derived.Test.YthihppocokkoiaaDoorLwI
namespace Go.Proofs.YthihppocokkoiaaDoor
set_option linter.unusedVariables false
open Go.Shelf Go.RowKit Go.Lib Go.Sort

set_option maxHeartbeats 1000000 in
theorem string79 (s : ByteArray) (w : World) : Calls Tryd.prog 79 #[strVar s] w fun e w' => e = .returned (.string s) ∧ Below w.heap.size w w' := by
  unfold strVar
  go_enter Tryd.func79, Tryd.ntmps79
  go_wp2
  all_goals go_ret
  all_goals exact ⟨rfl, by repeat (first | exact Below.refl _ _ | apply Below.drew | (refine Below.alloc ?_ (by simp) _))⟩
set_option maxHeartbeats 1000000 in
theorem zero79 (w : World) : Calls Tryd.prog 79 #[zeroVar] w fun e w' => e = .returned (.string ⟨#[]⟩) ∧ Below w.heap.size w w' := by
  unfold zeroVar
  go_enter Tryd.func79, Tryd.ntmps79
  go_wp2
  all_goals go_ret
  all_goals exact ⟨rfl, by repeat (first | exact Below.refl _ _ | apply Below.drew | (refine Below.alloc ?_ (by simp) _))⟩

theorem rowat_below {W W' : World} {B : Nat} {sv : Value} {R : List (List UInt8)} (h : RowAt W B sv R) (hb : Below W.heap.size W W') : RowAt W' B sv R := by
  obtain ⟨a, cap, h1, h2, h3, h4⟩ := h
  refine ⟨a, cap, h1, h2, h3, fun hne => ?_⟩
  obtain ⟨g, h5, h6, h7, h8⟩ := h4 hne
  exact ⟨g, h5, h6, by have := hb.size; omega, holds_below h8 hb h7⟩

/-- a Config over a list environment -/
def CfgOut (w : World) (L : List (List UInt8)) (e : Ending) (w' : World) : Prop :=
  ∃ sv R g, e = .returned (.pointer (some ⟨g, 0, none⟩)) ∧ Envp.Env L R ∧ RowAt w' w.heap.size sv R ∧ w'.cell? ⟨g, 0, none⟩ = some (.iface 97 (.agg #[.bool false, sv])) ∧ w.heap.size ≤ g ∧ g < w'.heap.size ∧ Below w.heap.size w w'

set_option maxRecDepth 20000 in
set_option maxHeartbeats 1000000 in
theorem list28 (v : Value) (P : List ByteArray) (w : World) (hv : Texts w v P) (hS : Small P) : Calls Tryd.prog 28 #[v] w (CfgOut w (P.map (·.data.toList))) := by
  have ENV := Lib.hid (env_any v P w hv (fun s hs => by have := small_mem hS s hs; omega) hS.1)
  clear hv hS
  go_enter Tryd.func28, Tryd.ntmps28
  go_wp2_with (first | (go_at_call 66; go_must (refine ENV.out.mono ?_); rintro e w2 ⟨sv, R, rfl, hE, hB2, hR⟩; have HI := Lib.hid (And.intro hE (And.intro hB2 hR)); clear hE hR hB2 ENV))
  go_ret
  have hb : ∀ o, Below w2.heap.size w2 (w2.alloc o) := fun o => (Below.refl _ _).alloc (Nat.le_refl _) o
  refine ⟨sv, R, w2.heap.size, rfl, HI.out.1, rowat_below HI.out.2.2 (hb _), ?_, HI.out.2.1.size, ?_, HI.out.2.1.alloc HI.out.2.1.size _⟩
  · refine cell_heap (by show (w2.heap.push _)[w2.heap.size]? = _; exact Array.getElem?_push_size) 0 _ rfl
  · show w2.heap.size < (w2.heap.push _).size
    rw [Array.size_push]; omega

/-- the text that envGet answers -/
def ansText (o : Option (List UInt8)) (k : Nat) : ByteArray :=
  match o with
  | none => ⟨#[]⟩
  | some x => (⟨x.toArray⟩ : ByteArray).extract (k + 1) (⟨x.toArray⟩ : ByteArray).size

set_option maxRecDepth 20000 in
set_option maxHeartbeats 1000000 in
theorem env67 (g : Nat) (sv : Value) (q s : ByteArray) (v : Value) (w : World) (hc : w.cell? ⟨g, 0, none⟩ = some (.iface 97 (.agg #[.bool false, sv])))
    (GET : Hid (∀ W, Below w.heap.size w W → Calls Tryd.prog 141 #[.agg #[.bool false, sv], .string q] W fun e w' => e = .returned v ∧ Below W.heap.size W w'))
    (STR : Hid (∀ W, Calls Tryd.prog 79 #[v] W fun e w' => e = .returned (.string s) ∧ Below W.heap.size W w')) :
    Calls Tryd.prog 67 #[.pointer (some ⟨g, 0, none⟩), .string q] w fun e w' => e = .returned (.string s) ∧ Below w.heap.size w w' := by
  have method_get : ∀ (sv : Value) (w : World), (method 342 97 (.agg #[.bool false, sv]) "Get").run Tryd.prog w = .ok (141, .agg #[.bool false, sv]) w := fun sv w => by kernel_rfl
  go_enter Tryd.func67, Tryd.ntmps67
  go_wp2_with (first | (go_at_call 141; go_must (refine (GET.out _ (Below.refl _ _)).mono ?_); rintro e w2 ⟨rfl, hB2⟩; have HB2 := Lib.hid hB2; clear hB2 GET) | (go_at_call 79; go_must (refine (STR.out _).mono ?_); rintro e w3 ⟨rfl, hB3⟩; have HB3 := Lib.hid (HB2.out.trans (hB3.mono HB2.out.size)); clear hB3 HB2))
  go_ret
  exact ⟨rfl, HB3.out⟩
set_option maxRecDepth 20000 in
theorem env29 (g : Nat) (q s : ByteArray) (w : World) (E : Hid (Calls Tryd.prog 67 #[.pointer (some ⟨g, 0, none⟩), .string q] w fun e w' => e = .returned (.string s) ∧ Below w.heap.size w w')) :
    Calls Tryd.prog 29 #[.pointer (some ⟨g, 0, none⟩), .string q] w fun e w' => e = .returned (.string s) ∧ Below w.heap.size w w' := by
  go_enter Tryd.func29, Tryd.ntmps29
  go_wp2_with (first | (go_at_call 67; go_must (refine E.out.mono ?_); rintro e w2 ⟨rfl, hB2⟩; have HB2 := Lib.hid hB2; clear hB2 E))
  go_ret
  exact ⟨rfl, HB2.out⟩
end Go.Proofs.YthihppocokkoiaaDoor
