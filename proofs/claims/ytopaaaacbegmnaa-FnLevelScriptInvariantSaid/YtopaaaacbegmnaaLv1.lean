/-
  The walks of a bufio.Writer over a sink that drops what it is given. Conditions: those in each theorem.
-/
import Derived.Test.YtopaaaacbegmnaaProg
import Derived.WalkKit
import Derived.WalkSpells
import Derived.Deep.QuietTactic
import Derived.BigQuiet
import Derived.Deep.LoopGhost
import Derived.OwnWalk
import Derived.Shelf.RegionOpenPlain
import Derived.Below
import Derived.Lib.Builder
import Derived.Lib.BufferMore
import Derived.Lib.Hide
import Derived.Lib.BufferOwn
import Derived.Laws.AppendOwn
namespace Go.Proofs.Ytopaaaacbegmnaa
set_option linter.unusedVariables false
open Go.Shelf Go.RowKit Go.Lib

/-- the frame: the blocks of S alone turn -/
structure Fx (S : Nat → Prop) (w w' : World) : Prop where
  os : w'.os = w.os
  tape : w'.tape = w.tape
  output : w'.output = w.output
  size : w.heap.size ≤ w'.heap.size
  block : ∀ i, i < w.heap.size → ¬ S i → w'.heap[i]? = w.heap[i]?
theorem Fx.refl (S : Nat → Prop) (w : World) : Fx S w w := ⟨rfl, rfl, rfl, Nat.le_refl _, fun _ _ _ => rfl⟩
theorem Fx.trans {S : Nat → Prop} {w w1 w2 : World} (h : Fx S w w1) (k : Fx S w1 w2) : Fx S w w2 :=
  ⟨k.os.trans h.os, k.tape.trans h.tape, k.output.trans h.output, Nat.le_trans h.size k.size, fun i hi hs => (k.block i (Nat.lt_of_lt_of_le hi h.size) hs).trans (h.block i hi hs)⟩
theorem Fx.mono {S T : Nat → Prop} {w w' : World} (h : Fx S w w') (hs : ∀ i, S i → T i) : Fx T w w' := ⟨h.os, h.tape, h.output, h.size, fun i hi hn => h.block i hi (fun e => hn (hs i e))⟩
theorem Fx.drewN {S : Nat → Prop} {w w' : World} (h : Fx S w w') (n : Nat) : Fx S w (w'.drewN n) := ⟨h.os, h.tape, h.output, h.size, h.block⟩
theorem Fx.ofDrewN {S : Nat → Prop} {w w' : World} {n : Nat} (h : Fx S (w.drewN n) w') : Fx S w w' := ⟨h.os, h.tape, h.output, h.size, h.block⟩
theorem Fx.set {S : Nat → Prop} {w w' : World} (h : Fx S w w') {a : Addr} (ha : S a.block) (x : Value) : Fx S w (w'.setCell a x) :=
  ⟨h.os, h.tape, h.output, by simpa [World.setCell] using h.size, fun i hi hs => (Below.heap_setCell _ _ _ _ (fun e => hs (by rw [e]; exact ha))).trans (h.block i hi hs)⟩
theorem Fx.same {S : Nat → Prop} {w w1 W : World} (h : Fx S w w1) (hh : W.heap = w1.heap) (h1 : W.os = w1.os) (h2 : W.tape = w1.tape) (h3 : W.output = w1.output) : Fx S w W :=
  ⟨h1.trans h.os, h2.trans h.tape, h3.trans h.output, by rw [hh]; exact h.size, fun i hi hn => by rw [hh]; exact h.block i hi hn⟩

/-- the bufio.Writer's four cells -/
def bcells (r n : Nat) : Array Value := #[.nilIface, .slice (some ⟨r, 0, none⟩) 4096 4096, .int .i64 n, .iface 36 (.agg #[])]
/-- a bufio.Writer at block k, its row r, n bytes waiting -/
structure BD (B k r n : Nat) (w : World) : Prop where
  wr : w.heap[k]? = some (.cells (bcells r n) 57 (0, 0))
  row : ∃ rc, w.heap[r]? = some (.cells rc 5 (0, 0)) ∧ rc.size = 4096
  fits : n ≤ 4096
  nkr : k ≠ r
  lk : B ≤ k
  lr : B ≤ r
def S2 (k r i : Nat) : Prop := i = k ∨ i = r
theorem BD.c0 {B k r n : Nat} {w : World} (h : BD B k r n w) : w.cell? ⟨k, 0, none⟩ = some .nilIface := by rw [Lib.cell_of_heap h.wr]; rfl
theorem BD.c1 {B k r n : Nat} {w : World} (h : BD B k r n w) : w.cell? ⟨k, 1, none⟩ = some (.slice (some ⟨r, 0, none⟩) 4096 4096) := by rw [Lib.cell_of_heap h.wr]; rfl
theorem BD.c2 {B k r n : Nat} {w : World} (h : BD B k r n w) : w.cell? ⟨k, 2, none⟩ = some (.int .i64 n) := by rw [Lib.cell_of_heap h.wr]; rfl
theorem BD.c3 {B k r n : Nat} {w : World} (h : BD B k r n w) : w.cell? ⟨k, 3, none⟩ = some (.iface 36 (.agg #[])) := by rw [Lib.cell_of_heap h.wr]; rfl
theorem BD.f {B k r n : Nat} {w : World} (h : BD B k r n w) (i : Nat) : w.frozen? ⟨k, i, none⟩ = false := Lib.frozen_of_heap h.wr i
theorem BD.kept {B k r n : Nat} {w w' : World} (h : BD B k r n w) (hS : ∀ i, S2 k r i → w'.heap[i]? = w.heap[i]?) : BD B k r n w' := by
  obtain ⟨rc, h1, h2⟩ := h.row
  exact ⟨(hS k (.inl rfl)).trans h.wr, ⟨rc, (hS r (.inr rfl)).trans h1, h2⟩, h.fits, h.nkr, h.lk, h.lr⟩
theorem BD.count {B k r n : Nat} {w : World} (h : BD B k r n w) (m : Nat) (hm : m ≤ 4096) : BD B k r m (w.setCell ⟨k, 2, none⟩ (.int .i64 m)) := by
  obtain ⟨rc, h1, h2⟩ := h.row
  exact ⟨Lib.heap_setCell_same (i := 2) h.wr _, ⟨rc, (Below.heap_setCell _ _ _ _ (Ne.symm h.nkr)).trans h1, h2⟩, hm, h.nkr, h.lk, h.lr⟩
theorem BD.put {B k r n : Nat} {w : World} (h : BD B k r n w) (i : Nat) (x : Value) : BD B k r n (w.setCell ⟨r, i, none⟩ x) := by
  obtain ⟨rc, h1, h2⟩ := h.row
  exact ⟨(Below.heap_setCell _ _ _ _ h.nkr).trans h.wr, ⟨_, Lib.heap_setCell_same (i := i) h1 _, by simp [h2]⟩, h.fits, h.nkr, h.lk, h.lr⟩

/-- what a call that hands back nil leaves -/
def BOut (B k r : Nat) (w : World) (e : Ending) (w' : World) : Prop := e = .returned .nilIface ∧ ∃ n, BD B k r n w' ∧ Fx (S2 k r) w w'

set_option maxRecDepth 20000 in
theorem avail36 (k n r : Nat) (w : World) (c1 : w.cell? ⟨k, 1, none⟩ = some (.slice (some ⟨r, 0, none⟩) 4096 4096)) (c2 : w.cell? ⟨k, 2, none⟩ = some (.int .i64 n)) (hn : n ≤ 4096) :
    Calls Try.prog 36 #[.pointer (some ⟨k, 0, none⟩)] w fun e w' => e = .returned (.int .i64 (4096 - n : Int)) ∧ ∃ d, w' = w.drewN d := by
  go_enter Try.func36, Try.ntmps36
  go_wp2
  go_big_region
  go_wp2
  go_ret
  exact ⟨rfl, 1, rfl⟩
set_option maxRecDepth 20000 in
theorem drop39 (a : Option Addr) (n c : Nat) (w : World) : Calls Try.prog 39 #[.agg #[], .slice a n c] w fun e w' => e = .returned (.tuple #[.int .i64 n, .nilIface]) ∧ w' = w.alloc (.cells #[] 36) := by
  go_enter Try.func39, Try.ntmps39
  go_wp2
  go_ret2
  exact ⟨rfl, rfl⟩
theorem BD.alloc {B k r n : Nat} {w : World} (h : BD B k r n w) (o : Obj) : BD B k r n (w.alloc o) := by
  obtain ⟨rc, h1, h2⟩ := h.row
  have a1 := Lib.lt_of_heap h.wr
  have a2 := Lib.lt_of_heap h1
  exact h.kept fun i hi => Below.heap_alloc _ _ i (by rcases hi with rfl | rfl <;> assumption)
theorem Fx.alloc {S : Nat → Prop} {w w' : World} (h : Fx S w w') (o : Obj) : Fx S w (w'.alloc o) :=
  ⟨h.os, h.tape, h.output, Nat.le_trans h.size (by simp), fun i hi hs => (Below.heap_alloc _ _ i (Nat.lt_of_lt_of_le hi h.size)).trans (h.block i hi hs)⟩

set_option maxRecDepth 20000 in
set_option maxHeartbeats 2000000 in
theorem flush38 (B k r n : Nat) (w : World) (h : BD B k r n w) :
    Calls Try.prog 38 #[.pointer (some ⟨k, 0, none⟩)] w fun e w' => e = .returned .nilIface ∧ BD B k r 0 w' ∧ Fx (S2 k r) w w' := by
  have meth : ∀ w, (method 233 36 (.agg #[]) "Write").run Try.prog w = .ok (39, .agg #[]) w := fun w => by kernel_rfl
  have c0 := h.c0
  have c1 := h.c1
  have c2 := h.c2
  have c3 := h.c3
  have hf := h.fits
  have H := Lib.hid h
  by_cases h0 : n = 0
  · subst h0
    clear h
    go_enter Try.func38, Try.ntmps38
    go_wp2
    go_ret
    exact ⟨rfl, H.out, Fx.refl _ _⟩
  · have mixed : Try.prog.follows .mixedOrders = true := by kernel_rfl
    have h0i : (0 : Int) < (n : Int) := by omega
    clear h
    go_enter Try.func38, Try.ntmps38
    have DR := Lib.hid (fun W => drop39 (some ⟨r, 0, none⟩) n 4096 W)
    go_wp2
    go_region_with_o (
      go_at_call 39
      refine (DR.out _).mono ?_
      rintro e w1 ⟨rfl, hw1⟩
      have h1 : BD B k r n w1 := by rw [hw1]; exact (H.out.kept (w' := w.drew) (fun _ _ => rfl)).alloc _
      have d2 := h1.c2
      have e2 := h1.f 2
      have H1 := Lib.hid h1
      have F1 : Hid (Fx (S2 k r) w w1) := by rw [hw1]; exact Lib.hid (((Fx.refl _ w).drewN 1).alloc _)
      clear h1 hw1)
    all_goals (
      go_wp2
      go_ret
      exact ⟨rfl, H1.out.count 0 (by omega), F1.out.set (a := ⟨k, 2, none⟩) (.inl rfl) _⟩)
end Go.Proofs.Ytopaaaacbegmnaa
