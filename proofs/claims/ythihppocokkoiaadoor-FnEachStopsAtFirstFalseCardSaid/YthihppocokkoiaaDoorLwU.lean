/-
  The walk of the exported door to Each. Conditions: those in each theorem.
-/
import Derived.Test.YthihppocokkoiaaDoorLwT
namespace Go.Proofs.YthihppocokkoiaaDoor
set_option linter.unusedVariables false
open Go.Shelf Go.RowKit Go.Lib Go.Sort

/-- what the exported Each hands back: the names and the variables of the first calls -/
def EachDone (w : World) (R : List (List UInt8)) (stop : Int) (e : Ending) (w' : World) : Prop :=
  ∃ E vn vv, e = .returned (.tuple #[vn, vv]) ∧ w.heap.size ≤ E ∧ E ≤ w'.heap.size ∧ w'.ownsRow E 9 1 vn (calls stop R.length) (((R.take (calls stop R.length)).map nameB).map Value.string) ∧ w'.ownsRow E 34 9 vv (calls stop R.length) (strAll ((R.take (calls stop R.length)).map valB)) ∧ Below w.heap.size w w'
theorem calls_le (stop : Int) (n : Nat) : calls stop n ≤ n := by
  unfold calls; split
  · exact Nat.le_refl _
  · exact Nat.min_le_right _ _
/-- an environment's list, as Each wants it -/
def GoodR (R : List (List UInt8)) : Prop := (∀ y ∈ R, Envp.valid y = true) ∧ (∀ y ∈ R, y.length ≤ 1073741824) ∧ R.length ≤ 1073741824

theorem heap_at3 (w : World) (o1 o2 o3 : Obj) : (((w.alloc o1).alloc o2).alloc o3).heap[w.heap.size]? = some o1 ∧ (((w.alloc o1).alloc o2).alloc o3).heap[w.heap.size + 1]? = some o2 ∧ (((w.alloc o1).alloc o2).alloc o3).heap[w.heap.size + 1 + 1]? = some o3 := by
  have e : (((w.alloc o1).alloc o2).alloc o3).heap = ((w.heap.push o1).push o2).push o3 := rfl
  rw [e]
  refine ⟨?_, ?_, ?_⟩ <;> (simp only [Array.getElem?_push, Array.size_push]; repeat (first | rw [if_pos trivial] | rw [if_pos (by omega)] | rw [if_neg (by omega)]))
theorem each_drew {w w' : World} {R : List (List UInt8)} {stop : Int} {e : Ending} (h : EachDone w R stop e w') (n : Nat) : EachDone w R stop e (w'.drewN n) := by
  obtain ⟨E, vn, vv, h1, h2, h3, h4, h5, h6⟩ := h
  exact ⟨E, vn, vv, h1, h2, h3, h4, h5, ⟨h6.os, h6.tape, h6.output, h6.size, h6.block⟩⟩
/-- what it says -/
def DoorSay (Q : List (List UInt8) → Prop) (w : World) (stop : Int) (e : Ending) (w' : World) : Prop := ∃ R, Q R ∧ GoodR R ∧ EachDone w R stop e w'

set_option maxRecDepth 20000 in
set_option maxHeartbeats 8000000 in
theorem door63 (ci : Bool) (v : Value) (stop : Int) (Q : List (List UInt8) → Prop) (w : World)
    (ENV : Hid (∀ W : World, Below w.heap.size w W → Calls Tryd.prog 66 #[.bool ci, v] W fun e w' => ∃ sv R, e = .returned (.iface 97 (.agg #[.bool ci, sv])) ∧ GoodR R ∧ Q R ∧ Below W.heap.size W w' ∧ RowAt w' W.heap.size sv R)) :
    Calls Tryd.prog 63 #[.bool ci, v, .int .i64 stop] w fun e w' => ∃ R, Q R ∧ GoodR R ∧ EachDone w R stop e w' := by
  have mixed : Tryd.prog.follows .mixedOrders = true := by kernel_rfl
  have method_each : ∀ (sv : Value) (w : World), (method 342 97 (.agg #[.bool ci, sv]) "Each").run Tryd.prog w = .ok (140, .agg #[.bool ci, sv]) w := fun sv w => by cases ci <;> kernel_rfl
  show Calls Tryd.prog 63 #[.bool ci, v, .int .i64 stop] w fun e w' => DoorSay Q w stop e w'
  go_enter Tryd.func63, Tryd.ntmps63
  go_wp2_with (fail)
  obtain ⟨k0, k1, k2⟩ := heap_at3 w (.cells #[.int .i64 stop] 3) (.cells #[.slice none 0 0] 22) (.cells #[.slice none 0 0] 67)
  have h3 : (((w.alloc (.cells #[.int .i64 stop] 3)).alloc (.cells #[.slice none 0 0] 22)).alloc (.cells #[.slice none 0 0] 67)).heap.size = w.heap.size + 3 := by simp
  have b0 : Below w.heap.size w (((w.alloc (.cells #[.int .i64 stop] 3)).alloc (.cells #[.slice none 0 0] 22)).alloc (.cells #[.slice none 0 0] 67)) := (((Below.refl _ _).alloc (Nat.le_refl _) _).alloc (by simp) _).alloc (by simp; omega) _
  generalize (((w.alloc (.cells #[.int .i64 stop] 3)).alloc (.cells #[.slice none 0 0] 22)).alloc (.cells #[.slice none 0 0] 67)) = W0 at k0 k1 k2 h3 b0 ⊢
  refine (ENV.out W0 b0).mono ?_
  rintro e W1 ⟨sv, R, rfl, hG, hQ, hB1, hRow⟩
  have j0 := (hB1.block w.heap.size (by omega)).trans k0
  have j1 := (hB1.block (w.heap.size + 1) (by omega)).trans k1
  have j2 := (hB1.block (w.heap.size + 1 + 1) (by omega)).trans k2
  have hs1 := hB1.size
  have REC : Hid (Rec W1.heap.size (w.heap.size + 1) (w.heap.size + 1 + 1) [] [] W1) := Lib.hid ⟨⟨_, j1, World.ownsRow_nil _ _ _ _⟩, ⟨_, j2, World.ownsRow_nil _ _ _ _⟩, Nat.le_refl _⟩
  have EA := Lib.hid (each140 W1.heap.size W0.heap.size (w.heap.size + 1) (w.heap.size + 1 + 1) w.heap.size ci sv R stop W1 rfl hRow hG.1 hG.2.1 hG.2.2 ⟨by omega, by omega⟩ REC.out (by rw [Lib.cell_of_heap j0]; rfl) (by omega) (by omega) (by omega) (by omega) (by omega) (by omega))
  have HS : Hid (w.heap.size ≤ W1.heap.size ∧ w.heap.size + 1 + 1 < W1.heap.size) := Lib.hid ⟨by omega, by omega⟩
  have HQ := Lib.hid (And.intro hQ hG)
  have HB1 := Lib.hid (b0.trans (hB1.mono b0.size))
  clear hG hQ hB1 hRow j0 j1 j2 hs1 k0 k1 k2 h3 b0 ENV REC
  go_wp2_with (go_at_call 140; refine EA.out.mono ?_; rintro e W2 ⟨rfl, hr, hf⟩; clear EA)
  obtain ⟨vn, hvn, own⟩ := hr.hn
  obtain ⟨vv, hvv, owv⟩ := hr.hv
  have c1 : W2.cell? ⟨w.heap.size + 1, 0, none⟩ = some vn := by rw [Lib.cell_of_heap hvn]; rfl
  have c2 : W2.cell? ⟨w.heap.size + 1 + 1, 0, none⟩ = some vv := by rw [Lib.cell_of_heap hvv]; rfl
  have HR : Hid (EachDone w R stop (.returned (.tuple #[vn, vv])) W2) := Lib.hid ⟨W1.heap.size, vn, vv, rfl, HS.out.1, hr.le, by have h := own; rw [List.length_map, List.length_take, Nat.min_eq_left (calls_le _ _)] at h; exact h, by have h := owv; rw [List.length_map, List.length_take, Nat.min_eq_left (calls_le _ _)] at h; exact h, HB1.out.trans ⟨hf.os, hf.tape, hf.output, hf.size, fun i hi => hf.block i (by have := HS.out; omega) (by omega) (by omega)⟩⟩
  clear hvn hvv own owv hr hf
  go_quiet (fail)
  go_wp2
  go_ret2
  exact ⟨R, HQ.out.1, HQ.out.2, each_drew HR.out _⟩
end Go.Proofs.YthihppocokkoiaaDoor
