/-
  The walks of the printer's reset and of the writer's Reset. Conditions: those in each theorem.
-/
import Derived.Test.YtonhphjejlidiaaNp
namespace Go.Proofs.Ytonhphjejlidiaa
set_option linter.unusedVariables false
open Go.Shelf Go.RowKit Go.Lib

theorem pset {kp : Bool} {k p tw : Nat} {f : PF} {W : World} (h : W.heap[p]? = some (.cells (pcells kp k p tw f) 87 (0, 0))) (i : Nat) (x : Value) (f2 : PF) (hx : (pcells kp k p tw f).setIfInBounds i x = pcells kp k p tw f2) : (W.setCell ⟨p, i, none⟩ x).heap[p]? = some (.cells (pcells kp k p tw f2) 87 (0, 0)) := by
  have := Lib.heap_setCell_same (i := i) h x; rw [hx] at this; exact this
/-- the fields behind reset -/
def resetF (f : PF) : PF := { f with ws := 2, wn := false, mn := false, first := !f.mini, line := 0, last := 0, level := 0 }

set_option maxRecDepth 20000 in
set_option maxHeartbeats 4000000 in
theorem reset51 (kp : Bool) (k p tw : Nat) (f : PF) (w : World) (h : w.heap[p]? = some (.cells (pcells kp k p tw f) 87 (0, 0))) :
    Calls Try.prog 51 #[.pointer (some ⟨p, 0, none⟩)] w (Turn kp k p tw (resetF f) w) := by
  have hc := fun i => Lib.cell_of_heap h i
  have hf := fun i => Lib.frozen_of_heap (w := w) (b := p) h i
  have c10 : w.cell? ⟨p, 10, none⟩ = some (.bool f.mini) := by rw [hc]; rfl
  have c13 : w.cell? ⟨p, 13, none⟩ = some (.int .u8 f.ws) := by rw [hc]; rfl
  have c14 : w.cell? ⟨p, 14, none⟩ = some (.bool f.wn) := by rw [hc]; rfl
  have c15 : w.cell? ⟨p, 15, none⟩ = some (.bool f.mn) := by rw [hc]; rfl
  have c17 : w.cell? ⟨p, 17, none⟩ = some (.slice none 0 0) := by rw [hc]; rfl
  have c18 : w.cell? ⟨p, 18, none⟩ = some (.bool f.first) := by rw [hc]; rfl
  have c19 : w.cell? ⟨p, 19, none⟩ = some (.int .u64 f.line) := by rw [hc]; rfl
  have c20 : w.cell? ⟨p, 20, none⟩ = some (.int .u64 f.last) := by rw [hc]; rfl
  have c21 : w.cell? ⟨p, 21, none⟩ = some (.int .u64 f.level) := by rw [hc]; rfl
  have c22 : w.cell? ⟨p, 22, none⟩ = some (.slice none 0 0) := by rw [hc]; rfl
  have c23 : w.cell? ⟨p, 23, none⟩ = some (.bool false) := by rw [hc]; rfl
  have c24 : w.cell? ⟨p, 24, none⟩ = some (.slice none 0 0) := by rw [hc]; rfl
  have H := Lib.hid h
  clear h hc
  go_enter Try.func51, Try.ntmps51
  go_wp2
  go_end0
  have a1 := pset H.out 13 (.int .u8 2) { f with ws := 2 } rfl
  have a2 := pset a1 14 (.bool false) { f with ws := 2, wn := false } rfl
  have a3 := pset a2 15 (.bool false) { f with ws := 2, wn := false, mn := false } rfl
  have a4 := pset a3 17 (.slice none 0 0) { f with ws := 2, wn := false, mn := false } rfl
  have a5 := pset a4 18 (.bool (!f.mini)) { f with ws := 2, wn := false, mn := false, first := !f.mini } rfl
  have a6 := pset a5 19 (.int .u64 0) { f with ws := 2, wn := false, mn := false, first := !f.mini, line := 0 } rfl
  have a7 := pset a6 20 (.int .u64 0) { f with ws := 2, wn := false, mn := false, first := !f.mini, line := 0, last := 0 } rfl
  have a8 := pset a7 21 (.int .u64 0) (resetF f) rfl
  have a9 := pset a8 22 (.slice none 0 0) (resetF f) rfl
  have a10 := pset a9 23 (.bool false) (resetF f) rfl
  have a11 := pset a10 24 (.slice none 0 0) (resetF f) rfl
  exact ⟨rfl, a11, fun v => (((((((((((FrS.refl (P1 p) v w).setCell (a := ⟨p, 13, none⟩) rfl _).setCell (a := ⟨p, 14, none⟩) rfl _).setCell (a := ⟨p, 15, none⟩) rfl _).setCell (a := ⟨p, 17, none⟩) rfl _).setCell (a := ⟨p, 18, none⟩) rfl _).setCell (a := ⟨p, 19, none⟩) rfl _).setCell (a := ⟨p, 20, none⟩) rfl _).setCell (a := ⟨p, 21, none⟩) rfl _).setCell (a := ⟨p, 22, none⟩) rfl _).setCell (a := ⟨p, 23, none⟩) rfl _).setCell (a := ⟨p, 24, none⟩) rfl _⟩

/-- what the writer's Reset leaves -/
def WReset (b k r : Nat) (w : World) (e : Ending) (w' : World) : Prop :=
  e = .returned (.tuple #[]) ∧ w'.heap[k]? = some (.cells (bcells b r 0) 151 (0, 0)) ∧ ∀ v, FrS (P1 k) v v w w'

set_option maxRecDepth 20000 in
set_option maxHeartbeats 4000000 in
theorem wreset127 (b k r : Nat) (w : World) (h : w.heap[k]? = some (.cells #[.nilIface, .slice (some ⟨r, 0, none⟩) 4096 4096, .int .i64 0, .nilIface] 151 (0, 0))) :
    Calls Try.prog 127 #[.pointer (some ⟨k, 0, none⟩), .iface 31 (.pointer (some ⟨b, 0, none⟩))] w (WReset b k r w) := by
  have hc := fun i => Lib.cell_of_heap h i
  have hf := fun i => Lib.frozen_of_heap (w := w) (b := k) h i
  have c0 : w.cell? ⟨k, 0, none⟩ = some .nilIface := by rw [hc]; rfl
  have c1 : w.cell? ⟨k, 1, none⟩ = some (.slice (some ⟨r, 0, none⟩) 4096 4096) := by rw [hc]; rfl
  have c2 : w.cell? ⟨k, 2, none⟩ = some (.int .i64 0) := by rw [hc]; rfl
  have c3 : w.cell? ⟨k, 3, none⟩ = some .nilIface := by rw [hc]; rfl
  have eq1 : ∀ w, (binOp .eql 117 (.iface 79 (.pointer (some ⟨k, 0, none⟩))) (.iface 31 (.pointer (some ⟨b, 0, none⟩)))).run Try.prog w = .ok (.bool false) w := fun w => by kernel_rfl
  have eq2 : ∀ w, (binOp .eql 54 (.slice (some ⟨r, 0, none⟩) 4096 4096) (.slice none 0 0)).run Try.prog w = .ok (.bool false) w := fun w => Lib.run_eql_slice_some_nil w _ _ _ Try.underlying54
  have H := Lib.hid h
  clear h hc
  go_enter Try.func127, Try.ntmps127
  go_wp2
  go_end0
  have h1 := Lib.heap_setCell_same (i := 3) (Lib.heap_setCell_same (i := 2) (Lib.heap_setCell_same (i := 0) H.out .nilIface) (.int .i64 0)) (.iface 31 (.pointer (some ⟨b, 0, none⟩)))
  exact ⟨rfl, h1, fun v => (((FrS.refl (P1 k) v w).setCell (a := ⟨k, 0, none⟩) rfl _).setCell (a := ⟨k, 2, none⟩) rfl _).setCell (a := ⟨k, 3, none⟩) rfl _⟩

/-- the fields behind a Reset -/
def wresetF (kp : Bool) (f : PF) : PF := if kp then { f with col := 1, ls := true } else f

set_option maxRecDepth 20000 in
set_option maxHeartbeats 4000000 in
theorem creset140 (b k r p tw : Nat) (f : PF) (w : World) (hp : w.heap[p]? = some (.cells (pcells true k p tw f) 87 (0, 0))) (h : w.heap[k]? = some (.cells #[.nilIface, .slice (some ⟨r, 0, none⟩) 4096 4096, .int .i64 0, .nilIface] 151 (0, 0))) (hkp : k ≠ p) :
    Calls Try.prog 140 #[.pointer (some ⟨p, 2, none⟩), .iface 31 (.pointer (some ⟨b, 0, none⟩))] w fun e w' => e = .returned (.tuple #[]) ∧ ∃ w1, w1.heap[p]? = some (.cells (pcells true k p tw { f with col := 1, ls := true }) 87 (0, 0)) ∧ (∀ v, FrS (P1 p) v v w w1) ∧ WReset b k r w1 (.returned (.tuple #[])) w' := by
  have hc := fun i => Lib.cell_of_heap hp i
  have hf := fun i => Lib.frozen_of_heap (w := w) (b := p) hp i
  have c2 : w.cell? ⟨p, 2, none⟩ = some (.pointer (some ⟨k, 0, none⟩)) := by rw [hc]; rfl
  have c3 : w.cell? ⟨p, 3, none⟩ = some (.int .i64 f.col) := by rw [hc]; rfl
  have c4 : w.cell? ⟨p, 4, none⟩ = some (.bool f.ls) := by rw [hc]; rfl
  have h1 := Lib.heap_setCell_same (i := 4) (Lib.heap_setCell_same (i := 3) hp (.int .i64 1)) (.bool true)
  have hk1 : ((w.setCell ⟨p, 3, none⟩ (.int .i64 1)).setCell ⟨p, 4, none⟩ (.bool true)).heap[k]? = some (.cells #[.nilIface, .slice (some ⟨r, 0, none⟩) 4096 4096, .int .i64 0, .nilIface] 151 (0, 0)) := by
    rw [Below.heap_setCell _ _ _ _ hkp, Below.heap_setCell _ _ _ _ hkp]; exact h
  have WR := Lib.hid (wreset127 b k r _ hk1)
  have H1 := Lib.hid h1
  clear hp h hc h1 hk1
  go_enter Try.func140, Try.ntmps140
  go_wp2_with (go_at_call 127; refine WR.out.mono ?_; rintro e w2 ⟨rfl, h3, h4⟩; have H3 := Lib.hid (And.intro h3 h4); clear h3 h4 WR)
  go_end0
  exact ⟨rfl, _, H1.out, fun v => ((FrS.refl (P1 p) v w).setCell (a := ⟨p, 3, none⟩) rfl _).setCell (a := ⟨p, 4, none⟩) rfl _, rfl, H3.out.1, H3.out.2⟩
end Go.Proofs.Ytonhphjejlidiaa
