/-
  The plain law of the trimming: where an ASCII text's blanks end. No program in this text. Conditions: those in each theorem.
-/
import Derived.Test.YtopaaaacbegmnaaDoorP1
import Derived.Lib.TrimAscii
import Derived.Lib.TrimUEq
namespace Go.Proofs.YtopaaaacbegmnaaDoor
set_option linter.unusedVariables false
open Go.RowKit Go.Lib

theorem first_non : ∀ l : List UInt8, (∀ (j : Nat) c, l[j]? = some c → isSp c = true) ∨ ∃ (lo : Nat) (x : UInt8), l[lo]? = some x ∧ isSp x = false ∧ ∀ (j : Nat) b, j < lo → l[j]? = some b → isSp b = true
  | [] => .inl (fun j c h => by simp at h)
  | c :: r => by
    cases hc : isSp c with
    | false => exact .inr ⟨0, c, rfl, hc, fun j b hj => absurd hj (Nat.not_lt_zero _)⟩
    | true =>
      rcases first_non r with h | ⟨lo, x, hx, hns, hb⟩
      · refine .inl fun j d hd => ?_
        cases j with
        | zero => cases hd; exact hc
        | succ j => exact h j d hd
      · refine .inr ⟨lo + 1, x, hx, hns, fun j d hj hd => ?_⟩
        cases j with
        | zero => cases hd; exact hc
        | succ j => exact hb j d (by omega) hd
theorem last_non : ∀ l : List UInt8, (∀ (j : Nat) c, l[j]? = some c → isSp c = true) ∨ ∃ (hi : Nat) (x : UInt8), l[hi]? = some x ∧ isSp x = false ∧ ∀ (j : Nat) b, hi < j → l[j]? = some b → isSp b = true
  | [] => .inl (fun j c h => by simp at h)
  | c :: r => by
    rcases last_non r with h | ⟨hi, x, hx, hns, hb⟩
    · cases hc : isSp c with
      | false =>
        refine .inr ⟨0, c, rfl, hc, fun j d hj hd => ?_⟩
        cases j with
        | zero => exact absurd hj (Nat.lt_irrefl _)
        | succ j => exact h j d hd
      | true =>
        refine .inl fun j d hd => ?_
        cases j with
        | zero => cases hd; exact hc
        | succ j => exact h j d hd
    · refine .inr ⟨hi + 1, x, hx, hns, fun j d hj hd => ?_⟩
      cases j with
      | zero => exact absurd hj (Nat.not_lt_zero _)
      | succ j => exact hb j d (by omega) hd

/-- the blanks of l end at lo and begin again at hi -/
structure Trim (l : List UInt8) (lo hi : Nat) : Prop where
  le : lo ≤ hi
  len : hi ≤ l.length
  front : ∀ (j : Nat) c, j < lo → l[j]? = some c → isSp c = true
  first : ∀ c, lo < hi → l[lo]? = some c → isSp c = false
  none : lo < hi ∨ lo = l.length
  back : ∀ (j : Nat) c, hi ≤ j → l[j]? = some c → isSp c = true
  last : ∀ (j : Nat) c, lo < hi → j + 1 = hi → l[j]? = some c → isSp c = false
  eq : trimSpaceD l = (l.drop lo).take (hi - lo)
theorem trim_cut (l : List UInt8) (ha : ∀ c ∈ l, c.toNat < 128) : ∃ lo hi, Trim l lo hi := by
  rcases first_non l with h | ⟨lo, x, hx, hns, hb⟩
  · refine ⟨l.length, l.length, Nat.le_refl _, Nat.le_refl _, fun j c _ hc => h j c hc, fun c hl => absurd hl (Nat.lt_irrefl _), .inr rfl, fun j c _ hc => h j c hc, fun j c hl => absurd hl (Nat.lt_irrefl _), ?_⟩
    rw [exit_all l h, List.drop_length, List.take_nil]
  · rcases last_non l with h | ⟨hi, y, hy, hny, hb2⟩
    · exact absurd (h lo x hx) (by rw [hns]; decide)
    · have hlo : lo < l.length := by
        by_cases hl : lo < l.length
        · exact hl
        · rw [List.getElem?_eq_none (by omega)] at hx; cases hx
      have hhi : hi < l.length := by
        by_cases hl : hi < l.length
        · exact hl
        · rw [List.getElem?_eq_none (by omega)] at hy; cases hy
      have hle : lo ≤ hi := by
        by_cases hl : lo ≤ hi
        · exact hl
        · exact absurd (hb2 lo x (by omega) hx) (by rw [hns]; decide)
      refine ⟨lo, hi + 1, by omega, by omega, hb, fun c _ hc => ?_, .inl (by omega), fun j c hj hc => hb2 j c (by omega) hc, fun j c _ hj hc => ?_, ?_⟩
      · rw [hx] at hc; cases hc; exact hns
      · have : j = hi := by omega
        subst this
        rw [hy] at hc; cases hc; exact hny
      · exact exit_cut l lo hi hle hhi hb x hx hns (ha x (List.mem_of_getElem? hx)) y hy hny (ha y (List.mem_of_getElem? hy)) hb2
end Go.Proofs.YtopaaaacbegmnaaDoor
