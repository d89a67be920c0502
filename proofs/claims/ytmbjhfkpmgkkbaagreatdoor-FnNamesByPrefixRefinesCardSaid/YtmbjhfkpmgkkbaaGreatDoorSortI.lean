/-
  Plain facts: the insertion sort of a stretch merges it; a block that was done stays done. No program is in sight. Conditions: those in each theorem.
-/
import Derived.Test.YtmbjhfkpmgkkbaaGreatDoorSortP
namespace Go.Proofs.YtmbjhfkpmgkkbaaGreatDoor.Stb
open Go.Sort
variable {α κ : Type} [Inhabited α] [DecidableEq κ] {klt : κ → κ → Prop} {key : α → κ}

omit [DecidableEq κ] in
theorem insInner_rot (lt : α → α → Bool) (hlt : ∀ x y, lt x y = true ↔ klt (key x) (key y)) (d : Array α) (a m : Nat) (hm : m + 1 ≤ d.size) :
    ∀ (k : Nat) (dk : Array α), a ≤ k → k ≤ m → Rot d dk k m (m + 1) → (k = m ∨ klt (key d[m]!) (key d[k]!)) →
      ∃ i, a ≤ i ∧ i ≤ m ∧ Rot d (insInner lt a k dk) i m (m + 1) ∧ (i = a ∨ ¬ klt (key d[m]!) (key d[i - 1]!)) ∧ (i = m ∨ klt (key d[m]!) (key d[i]!)) := by
  intro k
  induction k with
  | zero => intro dk h1 h2 r h; exact ⟨0, by omega, by omega, r, Or.inl (by omega), h⟩
  | succ k ih =>
    intro dk h1 h2 r h
    have e1 : dk[k + 1]! = d[m]! := by rw [r.fst (k + 1) (by omega) (by omega)]; congr 1; omega
    have e2 : dk[k]! = d[k]! := r.lo k (by omega)
    unfold insInner
    by_cases c : (decide (k + 1 > a) && lt dk[k + 1]! dk[k]!) = true
    · rw [if_pos c]
      rw [Bool.and_eq_true, decide_eq_true_eq, e1, e2] at c
      exact ih _ (by omega) (by omega) (rot_step_left (by omega) (by omega) r) (Or.inr ((hlt _ _).1 c.2))
    · rw [if_neg c]
      refine ⟨k + 1, h1, h2, r, ?_, h⟩
      by_cases c2 : k + 1 > a
      · right
        intro hk
        apply c
        rw [Bool.and_eq_true, decide_eq_true_eq, e1, e2]
        exact ⟨c2, (hlt _ _).2 (by simpa using hk)⟩
      · left; omega

theorem insInner_mer (O : KO klt) (lt : α → α → Bool) (hlt : ∀ x y, lt x y = true ↔ klt (key x) (key y)) (d : Array α) (a m : Nat) (ha : a ≤ m) (hm : m + 1 ≤ d.size) (hs : Srt klt key d a m) :
    Mer key d (insInner lt a m d) a (m + 1) ∧ Srt klt key (insInner lt a m d) a (m + 1) := by
  obtain ⟨i, h1, h2, r, x1, x2⟩ := insInner_rot lt hlt d a m hm m d ha (Nat.le_refl _) (Rot.idl d m (m + 1)) (Or.inl rfl)
  exact ins_right O hs h1 h2 hm x1 x2 r

theorem insOuter_mer (O : KO klt) (lt : α → α → Bool) (hlt : ∀ x y, lt x y = true ↔ klt (key x) (key y)) (a b : Nat) : ∀ (N i : Nat) (d : Array α), b - i ≤ N → a ≤ i → b ≤ d.size → Srt klt key d a i →
    Mer key d (insOuter lt a b i d) a b ∧ Srt klt key (insOuter lt a b i d) a b := by
  intro N
  induction N with
  | zero =>
    intro i d h1 h2 h3 hs
    unfold insOuter
    rw [if_neg (by omega)]
    exact ⟨Mer.refl _ _ _ _, hs.sub (Nat.le_refl _) (by omega)⟩
  | succ N ih =>
    intro i d h1 h2 h3 hs
    unfold insOuter
    by_cases c : i < b
    · rw [if_pos c]
      obtain ⟨m1, t1⟩ := insInner_mer O lt hlt d a i h2 (by omega) hs
      obtain ⟨m2, t2⟩ := ih (i + 1) (insInner lt a i d) (by omega) (by omega) (by rw [m1.size]; exact h3) t1
      exact ⟨(m1.mono (Nat.le_refl _) c).trans m2, t2⟩
    · rw [if_neg c]
      exact ⟨Mer.refl _ _ _ _, hs.sub (Nat.le_refl _) (by omega)⟩

theorem insertion_mer (O : KO klt) (lt : α → α → Bool) (hlt : ∀ x y, lt x y = true ↔ klt (key x) (key y)) (d : Array α) (a b : Nat) (hb : b ≤ d.size) :
    Mer key d (insertionSort lt d a b) a b ∧ Srt klt key (insertionSort lt d a b) a b := by
  unfold insertionSort
  by_cases c : a + 1 ≤ b
  · exact insOuter_mer O lt hlt a b (b - (a + 1)) (a + 1) d (Nat.le_refl _) (by omega) hb (Srt.one _ _ (Nat.le_refl _))
  · unfold insOuter
    rw [if_neg (by omega)]
    exact ⟨Mer.refl _ _ _ _, Srt.one _ _ (by omega)⟩

theorem Done.keep {d d' : Array α} {bs q a n : Nat} (h : Done klt key d bs q) (ha : a = q * bs) (M : Mer key d d' a n) : Done klt key d' bs q := by
  intro k hk
  have : (k + 1) * bs ≤ q * bs := Nat.mul_le_mul_right bs hk
  exact (h k hk).congr (fun x _ x2 => M.out x (by omega))
end Go.Proofs.YtmbjhfkpmgkkbaaGreatDoor.Stb
