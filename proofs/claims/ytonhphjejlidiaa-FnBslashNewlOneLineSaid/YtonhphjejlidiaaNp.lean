/-
  The walk of the making of a printer over a fresh buffer. Conditions: those in each theorem.
-/
import Derived.Test.YtonhphjejlidiaaPw2
import Derived.LoopN
namespace Go.Proofs.Ytonhphjejlidiaa
set_option linter.unusedVariables false
open Go.Shelf Go.RowKit Go.Lib

theorem make54 : ∃ M : Array Value, M.size = 4096 ∧ ∀ W : World, (Instr.makeSlice 54 (.int .i64 4096) (.int .i64 4096)).run Try.prog W = .ok (.slice (some ⟨W.heap.size, 0, none⟩) 4096 4096) (W.alloc (.cells M 5)) := by
  obtain ⟨i0, z0, hi, hz0, hz1, hz2, rfl⟩ := info5
  refine ⟨madeCells (Value.int .u8 0).cells ((4096 : Int).toNat * i0.size), by rw [size_madeCells, hz1]; rfl, fun W => ?_⟩
  have h := run_makeSlice (P := Try.prog) W 54 5 i0 (.int .u8 0) Try.underlying54 hi hz0 .i64 .i64 4096 4096 (by omega) (by omega) (by rw [hz1]; decide) (by rw [hz2]; decide) (by decide)
  simpa using h

/-- a fresh bufio.Writer: its row at r, itself at r + 1 -/
def Fresh (w w' : World) : Prop :=
  ∃ M : Array Value, M.size = 4096 ∧ w' = (w.alloc (.cells M 5)).alloc (.cells #[.nilIface, .slice (some ⟨w.heap.size, 0, none⟩) 4096 4096, .int .i64 0, .nilIface] 151)

set_option maxRecDepth 20000 in
set_option maxHeartbeats 4000000 in
theorem writer62 (w : World) : Calls Try.prog 62 #[.nilIface] w fun e w' => e = .returned (.pointer (some ⟨w.heap.size + 1, 0, none⟩)) ∧ Fresh w w' := by
  obtain ⟨M, hM, hmk⟩ := make54
  have ta : ∀ w, (Instr.typeAssert .nilIface 117 79 true).run Try.prog w = .ok (.tuple #[.pointer none, .bool false]) w := fun w => by kernel_rfl
  go_enter Try.func62, Try.ntmps62
  go_wp2
  go_ret
  exact ⟨rfl, M, hM, rfl⟩

/-- what a turn of the printer's block leaves -/
def Turn (kp : Bool) (k p tw : Nat) (f : PF) (w : World) (e : Ending) (w' : World) : Prop :=
  e = .returned (.tuple #[]) ∧ w'.heap[p]? = some (.cells (pcells kp k p tw f) 87 (0, 0)) ∧ ∀ v, FrS (P1 p) v v w w'
theorem turn_set {kp kp2 : Bool} {k p tw : Nat} {f f2 : PF} {w : World} (h : w.heap[p]? = some (.cells (pcells kp k p tw f) 87 (0, 0))) (i : Nat) (x : Value) (hx : (pcells kp k p tw f).setIfInBounds i x = pcells kp2 k p tw f2) : Turn kp2 k p tw f2 w (.returned (.tuple #[])) (w.setCell ⟨p, i, none⟩ x) :=
  ⟨rfl, by have := Lib.heap_setCell_same (i := i) h x; rw [hx] at this; exact this, fun v => fr_set w i x v⟩

set_option maxRecDepth 20000 in
theorem ind63 (kp : Bool) (k p tw bi n : Nat) (f : PF) (w : World) (h : w.heap[p]? = some (.cells (pcells kp k p tw f) 87 (0, 0))) (hb : w.cell? ⟨bi, 0, none⟩ = some (.int .u64 n)) :
    Calls Try.prog 63 #[.pointer (some ⟨p, 0, none⟩), .pointer (some ⟨bi, 0, none⟩)] w (Turn kp k p tw { f with ind := n } w) := by
  have c5 : w.cell? ⟨p, 5, none⟩ = some (.int .u64 f.ind) := by rw [Lib.cell_of_heap h]; rfl
  have f5 : w.frozen? ⟨p, 5, none⟩ = false := Lib.frozen_of_heap h 5
  have H := Lib.hid h
  clear h
  go_enter Try.func63, Try.ntmps63
  go_wp2
  go_end0
  exact turn_set H.out 5 _ rfl
set_option maxRecDepth 20000 in
theorem mini71 (kp : Bool) (k p tw bi : Nat) (m : Bool) (f : PF) (w : World) (h : w.heap[p]? = some (.cells (pcells kp k p tw f) 87 (0, 0))) (hb : w.cell? ⟨bi, 0, none⟩ = some (.bool m)) :
    Calls Try.prog 71 #[.pointer (some ⟨p, 0, none⟩), .pointer (some ⟨bi, 0, none⟩)] w (Turn kp k p tw { f with mini := m } w) := by
  have c5 : w.cell? ⟨p, 10, none⟩ = some (.bool f.mini) := by rw [Lib.cell_of_heap h]; rfl
  have f5 : w.frozen? ⟨p, 10, none⟩ = false := Lib.frozen_of_heap h 10
  have H := Lib.hid h
  clear h
  go_enter Try.func71, Try.ntmps71
  go_wp2
  go_end0
  exact turn_set H.out 10 _ rfl
set_option maxRecDepth 20000 in
theorem single72 (kp : Bool) (k p tw bi : Nat) (m : Bool) (f : PF) (w : World) (h : w.heap[p]? = some (.cells (pcells kp k p tw f) 87 (0, 0))) (hb : w.cell? ⟨bi, 0, none⟩ = some (.bool m)) :
    Calls Try.prog 72 #[.pointer (some ⟨p, 0, none⟩), .pointer (some ⟨bi, 0, none⟩)] w (Turn kp k p tw { f with single := m } w) := by
  have c5 : w.cell? ⟨p, 11, none⟩ = some (.bool f.single) := by rw [Lib.cell_of_heap h]; rfl
  have f5 : w.frozen? ⟨p, 11, none⟩ = false := Lib.frozen_of_heap h 11
  have H := Lib.hid h
  clear h
  go_enter Try.func72, Try.ntmps72
  go_wp2
  go_end0
  exact turn_set H.out 11 _ rfl
set_option maxRecDepth 20000 in
set_option maxHeartbeats 2000000 in
theorem keep64 (k p tw bi : Nat) (m : Bool) (f : PF) (w : World) (h : w.heap[p]? = some (.cells (pcells false k p tw f) 87 (0, 0))) (hb : w.cell? ⟨bi, 0, none⟩ = some (.bool m)) (hbp : bi ≠ p) :
    Calls Try.prog 64 #[.pointer (some ⟨p, 0, none⟩), .pointer (some ⟨bi, 0, none⟩)] w (Turn m k p tw f w) := by
  have c9 : w.cell? ⟨p, 9, none⟩ = some (.bool false) := by rw [Lib.cell_of_heap h]; rfl
  have f9 : w.frozen? ⟨p, 9, none⟩ = false := Lib.frozen_of_heap h 9
  have c0 : w.cell? ⟨p, 0, none⟩ = some (.iface 79 (.pointer (some ⟨k, 0, none⟩))) := by rw [Lib.cell_of_heap h]; rfl
  have f0 : w.frozen? ⟨p, 0, none⟩ = false := Lib.frozen_of_heap h 0
  have c2 : w.cell? ⟨p, 2, none⟩ = some (.pointer none) := by rw [Lib.cell_of_heap h]; rfl
  have f2 : w.frozen? ⟨p, 2, none⟩ = false := Lib.frozen_of_heap h 2
  have hb2 : ∀ i x, (w.setCell ⟨p, i, none⟩ x).cell? ⟨bi, 0, none⟩ = some (.bool m) := fun i x => (World.cell?_of_block (a := ⟨bi, 0, none⟩) (Below.heap_setCell _ _ _ _ hbp)).trans hb
  have ta : ∀ w, (Instr.typeAssert (.iface 79 (.pointer (some ⟨k, 0, none⟩))) 77 79 false).run Try.prog w = .ok (.pointer (some ⟨k, 0, none⟩)) w := fun w => by kernel_rfl
  have H := Lib.hid h
  clear h
  cases m
  · go_enter Try.func64, Try.ntmps64
    go_wp2
    go_end0
    exact ⟨rfl, H.out, fun v => FrS.refl _ _ _⟩
  · go_enter Try.func64, Try.ntmps64
    go_wp2
    go_end0
    have h1 := Lib.heap_setCell_same (i := 0) (Lib.heap_setCell_same (i := 2) (Lib.heap_setCell_same (i := 9) H.out (.bool true)) (.pointer (some ⟨k, 0, none⟩))) (.iface 134 (.pointer (some ⟨p, 2, none⟩)))
    exact ⟨rfl, h1, fun v => (((FrS.refl (P1 p) v w).setCell (a := ⟨p, 9, none⟩) rfl _).setCell (a := ⟨p, 2, none⟩) rfl _).setCell (a := ⟨p, 0, none⟩) rfl _⟩
end Go.Proofs.Ytonhphjejlidiaa
