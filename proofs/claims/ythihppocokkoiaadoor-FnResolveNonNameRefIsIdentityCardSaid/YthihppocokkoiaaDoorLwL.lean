/-
  A row under way that is one cell longer than the texts that are copied into it, and the store of one text behind them. Conditions: those in each theorem.
-/
import Derived.Test.YthihppocokkoiaaDoorLw4
import Derived.Test.YthihppocokkoiaaDoorApp
namespace Go.Proofs.YthihppocokkoiaaDoor
set_option linter.unusedVariables false
open Go.Shelf Go.RowKit Go.Lib Go.Sort

/-- the row g, of one cell more than P, under way: its first k cells are the texts' -/
structure MoreAt (P : List ByteArray) (w : World) (g k : Nat) (cs : Array Value) (wr : World) : Prop where
  size : cs.size = P.length + 1
  heap : wr.heap[g]? = some (.cells cs 9)
  done : ∀ j, j < k → cs[j]? = some (.string (P.getD j ByteArray.empty))
  below : Below g w wr

theorem MoreAt.step {P : List ByteArray} {w wr : World} {g k : Nat} {cs : Array Value} (h : MoreAt P w g k cs wr) (hk : k < P.length) :
    MoreAt P w g (k + 1) (cs.setIfInBounds k (.string (P.getD k ByteArray.empty))) (wr.setCell ⟨g, k, none⟩ (.string (P.getD k ByteArray.empty))) := by
  refine ⟨by simp [h.size], heap_set h.heap k _, fun j hj => ?_, h.below.setCell (Nat.le_refl _) _⟩
  rw [Array.getElem?_setIfInBounds]
  by_cases e : k = j
  · subst e
    rw [if_pos rfl, if_pos (by rw [h.size]; omega)]
  · rw [if_neg e]; exact h.done j (by omega)
theorem MoreAt.last {P : List ByteArray} {w wr : World} {g : Nat} {cs : Array Value} (h : MoreAt P w g P.length cs wr) (s : ByteArray) :
    Texts (wr.setCell ⟨g, P.length, none⟩ (.string s)) (.slice (some ⟨g, 0, none⟩) (P.length + 1) (P.length + 1)) (P ++ [s]) ∧ Below g w (wr.setCell ⟨g, P.length, none⟩ (.string s)) := by
  have hh := heap_set h.heap P.length (.string s)
  refine ⟨⟨some ⟨g, 0, none⟩, P.length + 1, by simp, fun _ => ⟨g, 0, rfl, (Array.getElem?_eq_some_iff.1 hh).1, fun j hj => ?_⟩⟩, h.below.setCell (Nat.le_refl _) _⟩
  rw [Nat.zero_add]
  refine cell_heap hh j _ ?_
  simp only [List.length_append, List.length_singleton] at hj
  rw [Array.getElem?_setIfInBounds]
  by_cases e : P.length = j
  · subst e
    rw [if_pos rfl, if_pos (by rw [h.size]; omega)]
    simp [List.getD]
  · rw [if_neg e, h.done j (by omega)]
    simp [List.getD, List.getElem?_append_left (show j < P.length by omega)]
theorem MoreAt.drew {P : List ByteArray} {w wr : World} {g k : Nat} {cs : Array Value} (h : MoreAt P w g k cs wr) : MoreAt P w g k cs wr.drew := ⟨h.size, h.heap, h.done, h.below.drew⟩
end Go.Proofs.YthihppocokkoiaaDoor
