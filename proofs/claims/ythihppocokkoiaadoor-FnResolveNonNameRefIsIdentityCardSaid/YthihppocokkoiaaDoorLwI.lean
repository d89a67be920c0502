/-
  The walk of n010_90's zzCopy: a fresh copy by a loop. Conditions: those in each theorem.
-/
import Derived.Test.YthihppocokkoiaaDoorLwH
namespace Go.Proofs.YthihppocokkoiaaDoor
set_option linter.unusedVariables false
open Go.Shelf Go.RowKit Go.Lib Go.Sort

/-- the row under way: its first k cells are the texts' -/
structure CopyAt (P : List ByteArray) (w : World) (g k : Nat) (cs : Array Value) (wr : World) : Prop where
  size : cs.size = P.length
  heap : wr.heap[g]? = some (.cells cs 9)
  done : ∀ j, j < k → cs[j]? = some (.string (P.getD j ByteArray.empty))
  below : Below w.heap.size w wr

theorem CopyAt.step {P : List ByteArray} {w wr : World} {k : Nat} {cs : Array Value} (h : CopyAt P w w.heap.size k cs wr) (hk : k < P.length) :
    CopyAt P w w.heap.size (k + 1) (cs.setIfInBounds k (.string (P.getD k ByteArray.empty))) (wr.setCell ⟨w.heap.size, k, none⟩ (.string (P.getD k ByteArray.empty))) := by
  refine ⟨by simp [h.size], heap_set h.heap k _, fun j hj => ?_, h.below.setCell (Nat.le_refl _) _⟩
  rw [Array.getElem?_setIfInBounds]
  by_cases e : k = j
  · subst e
    rw [if_pos rfl, if_pos (by rw [h.size]; exact hk)]
  · rw [if_neg e]; exact h.done j (by omega)
theorem CopyAt.texts {P : List ByteArray} {w wr : World} {cs : Array Value} (h : CopyAt P w w.heap.size P.length cs wr) : Texts wr (.slice (some ⟨w.heap.size, 0, none⟩) P.length P.length) P := by
  refine ⟨_, _, rfl, fun _ => ⟨w.heap.size, 0, rfl, (Array.getElem?_eq_some_iff.1 h.heap).1, fun j hj => ?_⟩⟩
  rw [Nat.zero_add]
  exact cell_heap h.heap j _ (h.done j hj)
theorem CopyAt.drew {P : List ByteArray} {w wr : World} {g k : Nat} {cs : Array Value} (h : CopyAt P w g k cs wr) : CopyAt P w g k cs wr.drew := ⟨h.size, h.heap, h.done, h.below.drew⟩

/-- what a copier hands back -/
def CopyOut (w : World) (P : List ByteArray) (e : Ending) (w' : World) : Prop := (∃ v', e = .returned v' ∧ Texts w' v' P) ∧ Below w.heap.size w w'

set_option maxRecDepth 20000 in
set_option maxHeartbeats 1000000 in
theorem copy27 (v : Value) (P : List ByteArray) (w : World) (hv : Texts w v P) (hn : P.length ≤ 1048576) :
    Calls Tryd.prog 27 #[v] w (CopyOut w P) := by
  obtain ⟨a, c, rfl, hc⟩ := hv
  have q22 : ∀ (w : World) (a : Option Addr) (n c n' c' : Nat), (binOp .eql 22 (.slice a n c) (.slice none n' c')).run Tryd.prog w = .ok (.bool a.isNone) w := fun w a n c n' c' => Lib.run_eql_slice_nil w _ _ a n c n' c' Tryd.underlying22
  cases a with
  | none =>
    have hp : P = [] := by
      cases P with
      | nil => rfl
      | cons x P => obtain ⟨b, off, h, _⟩ := hc (by simp); cases h
    subst hp
    clear hc
    go_enter Tryd.func27, Tryd.ntmps27
    go_wp2
    go_ret
    exact ⟨⟨_, rfl, ⟨none, 0, rfl, fun h => absurd rfl h⟩⟩, Below.refl _ _⟩
  | some x =>
    obtain ⟨cs, hcs, hmk⟩ := make22 w P.length hn
    have C0 : Hid (CopyAt P w w.heap.size 0 cs (w.alloc (.cells cs 9))) := Lib.hid ⟨hcs, by show (w.heap.push _)[w.heap.size]? = _; exact Array.getElem?_push_size, fun j hj => by omega, (Below.refl _ _).alloc (Nat.le_refl _) _⟩
    have hn' : (P.length : Int) ≤ 1048576 := by omega
    generalize hW : w.alloc (.cells cs 9) = W1 at *
    have HC := Lib.hid hc
    clear hW hcs hc
    go_enter Tryd.func27, Tryd.ntmps27
    go_wp2
    go_loopg [4] (P.length) (fun g v4 wr => ∃ (k : Nat) (ck : Array Value), v4 = .int .i64 k ∧ (k : Int) ≤ (P.length : Int) ∧ P.length - k ≤ g ∧ Hid (CopyAt P w w.heap.size k ck wr))
    case atStart => exact ⟨0, cs, rfl, by omega, by omega, C0⟩
    case round =>
      clear C0 hmk
      obtain ⟨k, ck, rfl, hk, hg, CK⟩ := hrel
      by_cases hlt : (k : Int) < (P.length : Int)
      · have hkn : k < P.length := by omega
        obtain ⟨bb, off, hxx, hbb, hcell⟩ := HC.out (by rintro rfl; simp at hkn)
        cases hxx
        have hx := hcell k hkn
        rw [← World.cell?_of_block (w := w) (w' := wr) (a := ⟨bb, off + k, none⟩) (CK.out.below.block bb hbb)] at hx
        have hkc : k < ck.size := by rw [CK.out.size]; exact hkn
        have hy : wr.cell? ⟨w.heap.size, k, none⟩ = some ck[k] := cell_heap CK.out.heap k _ (Array.getElem?_eq_getElem hkc)
        have hf : wr.frozen? ⟨w.heap.size, k, none⟩ = false := frozen_heap CK.out.heap k
        have C2 := Lib.hid (CK.out.step hkn)
        generalize hp : P.getD k ByteArray.empty = p at hx C2
        generalize ck.setIfInBounds k (.string p) = ck2 at C2
        generalize ck[k] = old at hy
        clear hcell hp CK hkc
        go_wp2
        go_roundg (P.length - (k + 1))
        case measure => omega
        case rel => exact ⟨k + 1, ck2, by go_num, by omega, Nat.le_refl _, (by first | exact C2 | exact Lib.hid C2.out.drew)⟩
      · have hkk : k = P.length := by omega
        have TX : Hid (Texts wr (.slice (some ⟨w.heap.size, 0, none⟩) P.length P.length) P) := Lib.hid (by have h := CK.out; rw [hkk] at h; exact h.texts)
        have BW := Lib.hid CK.out.below
        clear CK HC hkk
        go_wp2
        go_ret
        exact ⟨⟨_, rfl, TX.out⟩, BW.out⟩
end Go.Proofs.YthihppocokkoiaaDoor
