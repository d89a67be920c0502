/-
  The keeping sink: its state, its frame, the walk of its Write. Conditions: those in each theorem.
-/
import Derived.Test.YtopaaaacbegmnaaDoorProg
import Derived.WalkKit
import Derived.WalkSpells
import Derived.Deep.QuietTactic
import Derived.BigQuiet
import Derived.Deep.LoopGhost
import Derived.OwnWalk
import Derived.Shelf.RegionOpenPlain
import Derived.Below
import Derived.Lib.Builder
import Derived.Lib.BufferMore
import Derived.Lib.Hide
import Derived.Lib.BufferOwn
import Derived.Laws.AppendOwn
import Derived.Maps.AppendAt
namespace Go.Proofs.YtopaaaacbegmnaaDoor
set_option linter.unusedVariables false
open Go.Shelf Go.RowKit Go.Lib

/-- the frame: only b and v's own row turn -/
structure Fr (b : Nat) (v v' : Value) (w w' : World) : Prop where
  os : w'.os = w.os
  tape : w'.tape = w.tape
  output : w'.output = w.output
  size : w.heap.size ≤ w'.heap.size
  block : ∀ k, k < w.heap.size → k ≠ b → v.ownBlock ≠ some k → w'.heap[k]? = w.heap[k]?
  own : v'.ownBlock = v.ownBlock ∨ ∃ g, v'.ownBlock = some g ∧ w.heap.size ≤ g

/-- the sink at block b has kept l, in v's own row -/
def BufS (b : Nat) (l : List UInt8) (v : Value) (w : World) : Prop := w.heap[b]? = some (.cells #[v] 31 (0, 0)) ∧ w.ownsRow 0 5 1 v l.length (Lib.byteCells l)
theorem ne_ty {w : World} {i j : Nat} {c1 c2 : Array Value} {t1 t2 : TypeId} {l1 l2 : Nat × Nat} (h1 : w.heap[i]? = some (.cells c1 t1 l1)) (h2 : w.heap[j]? = some (.cells c2 t2 l2)) (h : t1 ≠ t2) : i ≠ j := by
  rintro rfl
  rw [h1] at h2
  cases h2
  exact h rfl
theorem own_kept5 {w w' : World} {B : Nat} {v : Value} {n : Nat} {xs : List Value} (h : w.ownsRow B 5 1 v n xs) (hv : ∀ g, v.ownBlock = some g → w'.heap[g]? = w.heap[g]?) : w'.ownsRow B 5 1 v n xs := by
  refine ⟨h.1, ?_⟩
  rcases h.2 with hr | ⟨g, cap, cur, rfl, hg, hgb, h3⟩
  · exact .inl hr
  · exact .inr ⟨g, cap, cur, rfl, hg, (hv g rfl).trans hgb, h3⟩
/-- a sink stays where its two blocks stay -/
theorem BufS.kept {b : Nat} {l : List UInt8} {v : Value} {w w' : World} (h : BufS b l v w) (hb : w'.heap[b]? = w.heap[b]?) (hv : ∀ g, v.ownBlock = some g → w'.heap[g]? = w.heap[g]?) : BufS b l v w' :=
  ⟨hb.trans h.1, own_kept5 h.2 hv⟩
theorem BufS.lt {b : Nat} {l : List UInt8} {v : Value} {w : World} (h : BufS b l v w) : b < w.heap.size := Lib.lt_of_heap h.1
theorem BufS.own_lt {b : Nat} {l : List UInt8} {v : Value} {w : World} (h : BufS b l v w) : ∀ g, v.ownBlock = some g → g < w.heap.size ∧ g ≠ b := by
  intro g hg
  refine ⟨(h.2.lt g hg).2, ?_⟩
  rcases h.2.2 with ⟨rfl, _⟩ | ⟨g', cap, cur, rfl, _, hgb, _⟩
  · simp [Value.ownBlock] at hg
  · simp [Value.ownBlock] at hg
    subst hg
    exact ne_ty hgb h.1 (by decide)

/-- what a write leaves -/
def WriteOut (b n : Nat) (l m : List UInt8) (v : Value) (w : World) (e : Ending) (w' : World) : Prop :=
  e = .returned (.tuple #[.int .i64 n, .nilIface]) ∧ ∃ v', BufS b (l ++ m) v' w' ∧ Fr b v v' w w'
theorem wo_mk {b n : Nat} {l m : List UInt8} {v v' : Value} {w w' : World} (h : BufS b (l ++ m) v' w') (hf : Fr b v v' w w') : WriteOut b n l m v w (.returned (.tuple #[.int .i64 n, .nilIface])) w' := ⟨rfl, v', h, hf⟩
theorem inf5 : ∃ i, Tryd.prog.info? 5 = some i ∧ i.zero = some (.int .u8 0) ∧ i.size = 1 ∧ i.bytes = 1 := by
  have h : (Tryd.prog.info? 5).map (fun i => (i.zero, i.size, i.bytes)) = some (some (.int .u8 0), 1, 1) := by kernel_rfl
  exact info_parts h
/-- behind the append and the store -/
theorem BufS.appended {b : Nat} {l m : List UInt8} {v v2 : Value} {w w1 : World} (h : BufS b l v w) (hown : w1.ownsRow 0 5 1 v2 (l.length + m.length) (Lib.byteCells l ++ Lib.byteCells m)) (hg : w.grownBy w1 v.ownBlock) (hnew : v2.ownBlock = v.ownBlock ∨ ∃ g, v2.ownBlock = some g ∧ w.heap.size ≤ g) :
    w1.heap[b]? = some (.cells #[v] 31 (0, 0)) ∧ BufS b (l ++ m) v2 (w1.setCell ⟨b, 0, none⟩ v2) ∧ Fr b v v2 w (w1.setCell ⟨b, 0, none⟩ v2) := by
  have hne : v.ownBlock ≠ some b := fun e => (h.own_lt b e).2 rfl
  have hb : w1.heap[b]? = some (.cells #[v] 31 (0, 0)) := (hg.block b h.lt (fun e => hne e.symm)).trans h.1
  have hne2 : v2.ownBlock ≠ some b := by
    rcases hown.2 with ⟨rfl, _⟩ | ⟨g', cap, cur, rfl, _, hgb, _⟩
    · simp [Value.ownBlock]
    · intro e
      simp [Value.ownBlock] at e
      exact ne_ty hgb hb (by decide) e
  refine ⟨hb, ⟨Lib.heap_setCell_same (i := 0) hb v2, ?_⟩, hg.os, hg.tape, hg.output, by have := hg.size; simpa [World.setCell] using this, fun k hk hkb hkv => ?_, hnew⟩
  · rw [List.length_append, Lib.byteCells_append]
    exact own_kept5 hown fun g hg => Below.heap_setCell _ _ _ _ (by rintro rfl; exact hne2 hg)
  · rw [Below.heap_setCell _ _ _ _ (show k ≠ b from hkb)]
    exact hg.block k hk (fun e => hkv e.symm)

set_option maxRecDepth 20000 in
set_option maxHeartbeats 4000000 in
theorem buf_write (b r n cap : Nat) (l m : List UInt8) (v : Value) (rc : Array Value) (w : World) (h : BufS b l v w) (hr : w.heap[r]? = some (.cells rc 5 (0, 0))) (hm : m.length = n) (hheld : rc.toList.take n = Lib.byteCells m) (h1 : 1 ≤ n) (hl : l.length + n ≤ 1073741824) :
    Calls Tryd.prog 87 #[.pointer (some ⟨b, 0, none⟩), .slice (some ⟨r, 0, none⟩) n cap] w (WriteOut b n l m v w) := by
  obtain ⟨i5, hi, hz, hs, hby⟩ := inf5
  have c0 : w.cell? ⟨b, 0, none⟩ = some v := by rw [Lib.cell_of_heap h.1]; rfl
  have hnews : ∀ j u, (Lib.byteCells m)[j]? = some u → w.cell? ((⟨r, 0, none⟩ : Addr).add j) = some u := by
    intro j u hj
    rw [show (⟨r, 0, none⟩ : Addr).add j = ⟨r, j, none⟩ by simp [Addr.add]; intro h; exact h.symm]
    rw [Lib.cell_of_heap hr j, ← hheld] at *
    rw [← Array.getElem?_toList]
    have hjn : j < n := by
      have := (List.getElem?_eq_some_iff.1 hj).1
      rw [List.length_take] at this; omega
    rw [List.getElem?_take] at hj
    simpa [hjn] using hj
  have hml : (Lib.byteCells m).length = n * 1 := by rw [Lib.byteCells_length]; omega
  have H := Lib.hid h
  have ON := Lib.hid h.2
  have HM := Lib.hid hm
  clear h hr hheld
  go_enter Tryd.func87, Tryd.ntmps87
  go_wp2_with (at_builtin; refine wpList_append_own_at _ rfl _ _ 26 rfl 0 5 i5 (.int .u8 0) 1 1 Tryd.underlying26 hi hz hs hby rfl (by decide) _ _ _ rfl ON.out ⟨r, 0, none⟩ n cap (Lib.byteCells m) rfl hml hnews (Lib.byteCells_one _) (by unfold maxLen; omega) (by omega) (Nat.zero_le _) ?_)
  intro v1 w1 hown1 hgrow1 _ hat
  obtain ⟨q1, q2, q3⟩ := BufS.appended H.out (by rw [HM.out]; exact hown1) hgrow1 (hat.imp id fun e => ⟨_, e, Nat.le_refl _⟩)
  have f0 : w1.frozen? ⟨b, 0, none⟩ = false := Lib.frozen_of_heap q1 0
  have d0 : w1.cell? ⟨b, 0, none⟩ = some v := by rw [Lib.cell_of_heap q1]; rfl
  have Q2 := Lib.hid q2
  have Q3 := Lib.hid q3
  obtain ⟨g, c1, hv1⟩ : ∃ g c1, v1 = .slice (some ⟨g, 0, none⟩) (l.length + n) c1 := by
    rcases hown1.2 with ⟨_, h0⟩ | ⟨g, cap, cur, hv, _⟩
    · omega
    · exact ⟨g, cap, hv⟩
  clear q1 q2 q3 hgrow1 hown1 ON hat hnews hml
  subst hv1
  go_wp2
  go_ret2
  exact wo_mk Q2.out Q3.out
end Go.Proofs.YtopaaaacbegmnaaDoor
