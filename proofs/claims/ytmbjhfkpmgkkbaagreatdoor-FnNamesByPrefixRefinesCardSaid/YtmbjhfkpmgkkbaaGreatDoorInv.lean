/-
  What listEnviron_ keeps of the world while it thins its list: the list's row, the environment's box, the old memory. Conditions: those in each theorem.
-/
import Derived.Test.YtmbjhfkpmgkkbaaGreatDoorSortW
import Derived.Lib.OwnBridge
namespace Go.Proofs.YtmbjhfkpmgkkbaaGreatDoor
set_option linter.unusedVariables false
open Go.Shelf Go.RowKit Go.Lib Go.Sort

/-- w' is w but for block g and for new blocks -/
structure Near (g : Nat) (w w' : World) : Prop where
  os : w'.os = w.os
  tape : w'.tape = w.tape
  output : w'.output = w.output
  size : w.heap.size ≤ w'.heap.size
  block : ∀ k, k < w.heap.size → k ≠ g → w'.heap[k]? = w.heap[k]?

theorem near_of_below {g : Nat} {w w' : World} (h : Below w.heap.size w w') : Near g w w' := ⟨h.os, h.tape, h.output, h.size, fun k hk _ => h.block k hk⟩

theorem near_put {α : Type} [Inhabited α] (enc : α → Value) (g off q : Nat) (d : Array α) (w : World) : Near g w (putRow enc (Sort.ahead w q) g off d) :=
  ⟨rfl, rfl, rfl, by simp [putRow, mapBlock, Sort.ahead], fun k _ hg => by
    have : g ≠ k := fun e => hg e.symm
    simp [putRow, mapBlock, Sort.ahead, Array.getElem?_modify, this]⟩

theorem near_grow {g : Nat} {w w' : World} (h : Near g w w') (os : Array Obj) : Near g w (grow w' os) :=
  ⟨h.os, h.tape, h.output, by show w.heap.size ≤ (w'.heap ++ os).size; rw [Array.size_append]; have := h.size; omega, fun k hk hg => by
    show (w'.heap ++ os)[k]? = _
    rw [Array.getElem?_append_left (by have := h.size; omega)]
    exact h.block k hk hg⟩

theorem near_SW {α : Type} [Inhabited α] {enc : α → Value} {w W : World} {g off : Nat} {d : Array α} (h : SW enc w g off d W) : Near g w W := by
  obtain ⟨n, os, rfl⟩ := h
  exact near_grow (near_put enc g off n d w) os

structure Inv (w0 W : World) (g eb : Nat) (X : List (List UInt8)) : Prop where
  bel : Below w0.heap.size w0 W
  gB : w0.heap.size ≤ g
  eB : w0.heap.size ≤ eb
  gL : g < W.heap.size
  eL : eb < W.heap.size
  ne : eb ≠ g
  h : Holds encStr W g 0 X.toArray
  e0 : W.cell? ⟨eb, 0, none⟩ = some (.bool false)
  e1 : W.cell? ⟨eb, 1, none⟩ = some (.slice none 0 0)
  f1 : W.frozen? ⟨eb, 1, none⟩ = false

theorem Inv.step {w0 W W' : World} {g eb : Nat} {X Y : List (List UInt8)} (h : Inv w0 W g eb X) (n : Near g W W') (hY : Holds encStr W' g 0 Y.toArray) : Inv w0 W' g eb Y := by
  have hb : W'.heap[eb]? = W.heap[eb]? := n.block eb h.eL h.ne
  refine ⟨⟨n.os.trans h.bel.os, n.tape.trans h.bel.tape, n.output.trans h.bel.output, Nat.le_trans h.bel.size n.size, fun k hk => ?_⟩, h.gB, h.eB, Nat.lt_of_lt_of_le h.gL n.size, Nat.lt_of_lt_of_le h.eL n.size, h.ne, hY, ?_, ?_, ?_⟩
  · rw [n.block k (by have := h.bel.size; omega) (by have := h.gB; omega)]
    exact h.bel.block k hk
  · rw [World.cell?_of_block (w := W) hb]; exact h.e0
  · rw [World.cell?_of_block (w := W) hb]; exact h.e1
  · rw [World.frozen?_of_block (w := W) hb]; exact h.f1

theorem holds_near {W W' : World} {g : Nat} {X : List (List UInt8)} (hb : W'.heap[g]? = W.heap[g]?) (h : Holds encStr W g 0 X.toArray) : Holds encStr W' g 0 X.toArray := fun j hj => by
  rw [World.cell?_of_block (w := W) hb, World.frozen?_of_block (w := W) hb]; exact h j hj

theorem Inv.below {w0 W W' : World} {g eb : Nat} {X : List (List UInt8)} (h : Inv w0 W g eb X) (hb : Below W.heap.size W W') : Inv w0 W' g eb X :=
  h.step (near_of_below hb) (holds_near (hb.block g h.gL) h.h)

theorem holds_take {W : World} {g : Nat} {X Y Z : List (List UInt8)} (h : Holds encStr W g 0 X.toArray) (e : X = Y ++ Z) : Holds encStr W g 0 Y.toArray := fun j hj => by
  have hj' : j < Y.length := by simpa using hj
  have := h j (by rw [e]; simp; omega)
  have e2 : X.toArray[j]! = Y.toArray[j]! := by
    rw [getElem!_pos X.toArray j (by rw [e]; simp; omega), getElem!_pos Y.toArray j hj]
    simp only [List.getElem_toArray, e]
    rw [List.getElem_append_left hj']
  rw [e2] at this
  exact this

theorem Inv.cell {w0 W : World} {g eb : Nat} {X : List (List UInt8)} (h : Inv w0 W g eb X) (i : Nat) (hi : i < X.length) : W.cell? ⟨g, i, none⟩ = some (.string ⟨X[i].toArray⟩) := by
  have := (h.h i (by simpa using hi)).1
  rw [Nat.zero_add, getElem!_pos X.toArray i (by simpa using hi)] at this
  simpa using this

theorem del_s {w0 W : World} {g eb : Nat} {X : List (List UInt8)} (h : Inv w0 W g eb X) (k i cap : Nat) (hk : k = X.length) (hi : i < k) (hcap : k ≤ cap) (hm : cap ≤ maxLen) :
    Calls Tryz.prog 22 #[.slice (some ⟨g, 0, none⟩) k cap, .int .i64 i, .int .i64 (i + 1 : Nat)] W fun e w' => e = .returned (.slice (some ⟨g, 0, none⟩) (k - 1) cap) ∧ Inv w0 w' g eb (X.take i ++ X.drop (i + 1)) := by
  subst hk
  refine (Tryz.slices_Delete_string g 0 cap i (i + 1) X W h.h hcap hm (by omega) (by omega)).mono fun e w' ⟨he, q, hw⟩ => ?_
  rw [show i + 1 - i = 1 from by omega] at he hw
  refine ⟨he, ?_⟩
  have hH : Holds encStr w' g 0 (X.take i ++ X.drop (i + 1) ++ List.replicate 1 []).toArray := by
    rw [hw]
    exact holds_putRow encStr (Sort.ahead W q) g 0 X.toArray _ h.h (by simp; omega)
  exact h.step (by rw [hw]; exact near_put _ _ _ _ _ _) (holds_take hH rfl)
end Go.Proofs.YtmbjhfkpmgkkbaaGreatDoor
