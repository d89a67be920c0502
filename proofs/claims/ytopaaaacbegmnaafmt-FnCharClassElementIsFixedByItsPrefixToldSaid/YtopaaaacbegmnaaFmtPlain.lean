/-
  THE PLAIN LAW OF charClass: a first place from k on, and what it gives on both sides of the comparison. No program is in sight here.
-/
import Derived.Lib.IndexBytes
namespace Go.Proofs.YtopaaaacbegmnaaFmt.Pl

/-- The first place from k on, of n places, at which p answers yes; -1 if there is none. -/
def firstFrom (p : Nat → Bool) (k : Nat) : Nat → Int
  | 0 => -1
  | n + 1 => if p k then (k : Int) else firstFrom p (k + 1) n

theorem firstFrom_ge (p : Nat → Bool) : ∀ n k, firstFrom p k n = -1 ∨ ((k : Int) ≤ firstFrom p k n ∧ firstFrom p k n < (k : Int) + n) := by
  intro n
  induction n with
  | zero => intro k; exact Or.inl rfl
  | succ n ih =>
    intro k
    unfold firstFrom
    split
    · right; omega
    · rcases ih (k + 1) with h | h
      · exact Or.inl h
      · right; omega

theorem firstFrom_shift (p q : Nat → Bool) : ∀ n k, (∀ i, k ≤ i → i < k + n → q (i + 1) = p i) →
    firstFrom q (k + 1) n = if firstFrom p k n = -1 then -1 else firstFrom p k n + 1 := by
  intro n
  induction n with
  | zero => intro k _; rfl
  | succ n ih =>
    intro k h
    have h0 := h k (Nat.le_refl _) (by omega)
    have hr := ih (k + 1) (fun i h1 h2 => h i (by omega) (by omega))
    unfold firstFrom
    rw [h0]
    by_cases c : p k = true
    · rw [if_pos c, if_pos c, if_neg (by omega)]; omega
    · rw [if_neg c, if_neg c]; exact hr

theorem firstFrom_hit (p : Nat → Bool) : ∀ n k (i : Nat), firstFrom p k n = (i : Int) → p i = true := by
  intro n
  induction n with
  | zero => intro k i h; simp [firstFrom] at h
  | succ n ih =>
    intro k i h
    unfold firstFrom at h
    split at h
    · rename_i c
      have : k = i := by omega
      rw [← this]; exact c
    · exact ih _ _ h

/-- More places behind: a first place that was there stays the first place. -/
theorem firstFrom_more (p q : Nat → Bool) : ∀ n m k (i : Nat), (∀ j, k ≤ j → j < k + n → q j = p j) → n ≤ m → firstFrom p k n = (i : Int) → firstFrom q k m = (i : Int) := by
  intro n
  induction n with
  | zero => intro m k i _ _ h; simp [firstFrom] at h
  | succ n ih =>
    intro m k i hq hm h
    obtain ⟨m', rfl⟩ : ∃ m', m = m' + 1 := ⟨m - 1, by omega⟩
    have h0 := hq k (Nat.le_refl _) (by omega)
    unfold firstFrom at h ⊢
    rw [h0]
    split at h
    · rename_i c; rw [if_pos c]; exact h
    · rename_i c; rw [if_neg c]
      exact ih m' (k + 1) i (fun j h1 h2 => hq j (by omega) (by omega)) (by omega) h

/-- 'sub' stands in s at place i. -/
def occ (s sub : ByteArray) (i : Nat) : Bool := (s.extract i (i + sub.size)).data.toList == sub.data.toList
def idx (s sub : ByteArray) : Int := firstFrom (occ s sub) 0 (s.size + 1 - sub.size)
/-- 'd]' stands in s at place j. -/
def shut (s : ByteArray) (d : Int) (j : Nat) : Bool := (((s.data.toList.getD j 0).toNat : Int) == d) && (((s.data.toList.getD (j + 1) 0).toNat : Int) == 93)
def closeAt (s : ByteArray) (d : Int) : Int := firstFrom (shut s d) 1 (s.size - 2)

/-- the fourteen class names -/
def classes : List (List UInt8) := [[97, 108, 110, 117, 109], [97, 108, 112, 104, 97], [97, 115, 99, 105, 105], [98, 108, 97, 110, 107], [99, 110, 116, 114, 108], [100, 105, 103, 105, 116], [103, 114, 97, 112, 104], [108, 111, 119, 101, 114], [112, 114, 105, 110, 116], [112, 117, 110, 99, 116], [115, 112, 97, 99, 101], [117, 112, 112, 101, 114], [119, 111, 114, 100], [120, 100, 105, 103, 105, 116]]

end Go.Proofs.YtopaaaacbegmnaaFmt.Pl
