/-
  A few facts of Lw13's and LwT's texts by themselves, for law 6's claim (a claim holds at most 57 texts). Not to be imported beside Lw13. Conditions: those in each theorem.
-/
import Derived.Test.YthihppocokkoiaaDoorLeT
import Derived.Test.YthihppocokkoiaaDoorLwD
namespace Go.Proofs.YthihppocokkoiaaDoor
set_option linter.unusedVariables false
open Go.Shelf Go.RowKit Go.Lib Go.Sort

def nameB (x : List UInt8) : ByteArray := ⟨(Envp.nameOf x).toArray⟩
def valB (x : List UInt8) : ByteArray := ⟨(Envp.valOf x).toArray⟩
theorem cut_named {x : List UInt8} {i : Nat} (h : Envp.eqAt x = i) : nameB x = (⟨x.toArray⟩ : ByteArray).extract 0 i ∧ valB x = (⟨x.toArray⟩ : ByteArray).extract (i + 1) (⟨x.toArray⟩ : ByteArray).size := by
  unfold nameB valB Envp.nameOf Envp.valOf
  rw [h, Int.toNat_natCast]
  refine ⟨?_, ?_⟩
  · apply ByteArray.ext
    apply Array.toList_inj.1
    rw [ByteArray.data_extract, Array.toList_extract, List.extract_eq_take_drop]
    simp
  · apply ByteArray.ext
    apply Array.toList_inj.1
    rw [ByteArray.data_extract, Array.toList_extract, List.extract_eq_take_drop]
    show List.drop (i + 1) x = List.take _ (List.drop (i + 1) x)
    rw [List.take_of_length_le]
    simp [ByteArray.size]
theorem SortedU.mem {L M : List (List UInt8)} (h : SortedU L M) (y : List UInt8) (hy : y ∈ M) : y ∈ L := by
  have : y ∈ M.filter (fun x => keyU x == keyU y) := by rw [List.mem_filter]; exact ⟨hy, by simp⟩
  rw [h.filt, List.mem_filter] at this
  exact this.1
theorem dd_any (up : List UInt8 → List UInt8) (S : List (List UInt8)) : ∀ (M acc : List (List UInt8)) (last : List UInt8), (∀ y ∈ acc, y ∈ S ∧ Envp.valid y = true) → (∀ y ∈ M, y ∈ S) →
    (∀ y ∈ (M.foldl (Envp.ddStep up) (acc, last)).1, y ∈ S ∧ Envp.valid y = true) ∧ (M.foldl (Envp.ddStep up) (acc, last)).1.length ≤ acc.length + M.length
  | [], acc, last, h, _ => ⟨h, Nat.le_refl _⟩
  | x :: M, acc, last, h, hM => by
    rw [List.foldl_cons]
    have hx := hM x (by simp)
    unfold Envp.ddStep
    simp only
    by_cases hv : Envp.valid x = true
    · rw [if_pos hv]
      split
      · have := dd_any up S M (acc.dropLast ++ [x]) last (fun y hy => by
          rw [List.mem_append, List.mem_singleton] at hy
          rcases hy with hy | rfl
          · exact h y ((List.dropLast_sublist acc).subset hy)
          · exact ⟨hx, hv⟩) (fun y hy => hM y (by simp [hy]))
        refine ⟨this.1, Nat.le_trans this.2 ?_⟩
        simp; omega
      · have := dd_any up S M (acc ++ [x]) (Envp.nameOf x) (fun y hy => by
          rw [List.mem_append, List.mem_singleton] at hy
          rcases hy with hy | rfl
          · exact h y hy
          · exact ⟨hx, hv⟩) (fun y hy => hM y (by simp [hy]))
        refine ⟨this.1, Nat.le_trans this.2 ?_⟩
        simp; omega
    · rw [if_neg hv]
      have := dd_any up S M acc last h (fun y hy => hM y (by simp [hy]))
      refine ⟨this.1, Nat.le_trans this.2 ?_⟩
      simp
theorem below_grow13 {B : Nat} {w w' : World} (h : Below B w w') (n : Nat) (os : Array Obj) (hB : B ≤ w'.heap.size) : Below B w (grow (w'.drewN n) os) :=
  h.trans ((below_regrown w' (w'.drawn + n) os).mono hB)
end Go.Proofs.YthihppocokkoiaaDoor
