/-
  Plain law: the column and the blank-line flag behind a text, as a fold and as the text's last line tells them. No program in sight; no condition beyond those in each theorem.
-/
import Derived.Below
namespace Go.Proofs.Ytonhphjejlidiaa
set_option linter.unusedVariables false

/-- a byte that leaves the line blank -/
def blankB (b : UInt8) : Bool := b == 9 || b == 32 || b == 255
/-- the column and the flag behind one byte -/
def addB (s : Nat × Bool) (b : UInt8) : Nat × Bool := if b = 10 then (1, true) else (s.1 + 1, s.2 && blankB b)
def addL (s : Nat × Bool) (l : List UInt8) : Nat × Bool := l.foldl addB s

theorem addL_nil (s : Nat × Bool) : addL s [] = s := rfl
theorem addL_cons (s : Nat × Bool) (b : UInt8) (l : List UInt8) : addL s (b :: l) = addL (addB s b) l := rfl
theorem addL_app (s : Nat × Bool) (l m : List UInt8) : addL s (l ++ m) = addL (addL s l) m := List.foldl_append
theorem addL_one (s : Nat × Bool) (l : List UInt8) (b : UInt8) : addL s (l ++ [b]) = addB (addL s l) b := by rw [addL_app]; rfl
theorem addB_space (s : Nat × Bool) : addB s 32 = (s.1 + 1, s.2) := by simp [addB, blankB]
theorem addL_spaces : ∀ (n : Nat) (s : Nat × Bool), addL s (List.replicate n 32) = (s.1 + n, s.2)
  | 0, s => rfl
  | n + 1, s => by rw [List.replicate_succ, addL_cons, addB_space, addL_spaces n]; simp; omega
theorem addL_le : ∀ (l : List UInt8) (s : Nat × Bool), (addL s l).1 ≤ s.1 + 1 + l.length
  | [], s => by simp [addL]
  | b :: l, s => by
    rw [addL_cons]
    have h := addL_le l (addB s b)
    have : (addB s b).1 ≤ s.1 + 1 := by unfold addB; split <;> simp
    simp only [List.length_cons]
    omega
theorem addL_pos : ∀ (l : List UInt8) (s : Nat × Bool), 1 ≤ s.1 → 1 ≤ (addL s l).1
  | [], s, h => h
  | b :: l, s, h => by
    rw [addL_cons]
    refine addL_pos l _ ?_
    unfold addB; split <;> simp
/-- a text without a newline -/
theorem addL_line : ∀ (l : List UInt8) (s : Nat × Bool), 10 ∉ l → addL s l = (s.1 + l.length, s.2 && l.all blankB)
  | [], s, _ => by simp [addL]
  | b :: l, s, h => by
    have hb : ¬ b = 10 := fun e => h (by simp [e])
    rw [addL_cons, addL_line l _ (fun m => h (List.mem_cons_of_mem _ m))]
    unfold addB
    rw [if_neg hb]
    simp [Bool.and_assoc]
    omega
/-- what the text's last line says -/
theorem addL_tail {l A T : List UInt8} (e : l = A ++ T) (hT : 10 ∉ T) (hA : A = [] ∨ ∃ A', A = A' ++ [10]) : addL (1, true) l = (1 + T.length, T.all blankB) := by
  subst e
  rw [addL_app]
  have : addL (1, true) A = (1, true) := by
    rcases hA with rfl | ⟨A', rfl⟩
    · rfl
    · rw [addL_one]; simp [addB]
  rw [this, addL_line _ _ hT]
  simp
end Go.Proofs.Ytonhphjejlidiaa
