/-
  The plain law of the sign: what TrimSpace makes of a text with '-' in front. No program in this text. Conditions: those in each theorem.
-/
import Derived.Test.YtopaaaacbegmnaaDoorP1
import Derived.Lib.TrimAscii
import Derived.Lib.SpaceUEq
import Derived.Lib.TrimUEq
namespace Go.Proofs.YtopaaaacbegmnaaDoor
set_option linter.unusedVariables false
open Go.RowKit Go.Lib

theorem find_same {l : List UInt8} : ∀ (Q : List (List UInt8)), (∀ q ∈ Q, q ≠ 45 :: l) → Q.find? (·.isSuffixOf (45 :: l)) = Q.find? (·.isSuffixOf l)
  | [], _ => rfl
  | q :: Q, h => by
    have hq : q.isSuffixOf (45 :: l) = q.isSuffixOf l := by
      rw [Bool.eq_iff_iff, List.isSuffixOf_iff_suffix, List.isSuffixOf_iff_suffix, List.suffix_cons_iff]
      exact ⟨fun e => e.resolve_left (h q (by simp)), .inr⟩
    rw [List.find?_cons, List.find?_cons, hq, find_same Q (fun x hx => h x (by simp [hx]))]
theorem heads : ∀ q ∈ spaceSeqs, q.head? ≠ some 45 := by decide
theorem tail_same (l : List UInt8) : tailSpace (45 :: l) = tailSpace l := by
  unfold tailSpace
  rw [find_same spaceSeqs (fun q hq e => heads q hq (by rw [e]; rfl))]
theorem tail_le (l : List UInt8) : tailSpace l ≤ l.length := by
  unfold tailSpace
  cases h : spaceSeqs.find? (·.isSuffixOf l) with
  | none => exact Nat.zero_le _
  | some q =>
    have := List.find?_some h
    rw [List.isSuffixOf_iff_suffix] at this
    exact this.length_le
theorem stripR_cons : ∀ (f : Nat) (l : List UInt8), stripR f (45 :: l) = 45 :: stripR f l
  | 0, l => rfl
  | f + 1, l => by
    unfold stripR
    rw [tail_same]
    by_cases h : tailSpace l = 0
    · rw [if_pos h, if_pos h]
    · rw [if_neg h, if_neg h]
      have hle := tail_le l
      have e : (45 :: l).take ((45 :: l).length - tailSpace l) = 45 :: l.take (l.length - tailSpace l) := by
        rw [List.length_cons, show l.length + 1 - tailSpace l = (l.length - tailSpace l) + 1 by omega]
        rfl
      rw [e]
      exact stripR_cons f _
theorem stripR_prefix : ∀ (f : Nat) (l : List UInt8), stripR f l <+: l
  | 0, l => List.prefix_refl l
  | f + 1, l => by
    unfold stripR
    split
    · exact List.prefix_refl l
    · exact (stripR_prefix f _).trans (List.take_prefix _ _)
/-- nothing is stripped in front -/
def Front (l : List UInt8) : Prop := ∀ c, l.head? = some c → isSp c = false ∧ c.toNat < 128
theorem left_front {l : List UInt8} (h : Front l) : trimLeftD l.length l = l := by
  cases l with
  | nil => rfl
  | cons c r =>
    obtain ⟨h1, h2⟩ := h c rfl
    exact left_stop r.length c r h1 h2
theorem trim_front {l : List UInt8} (h : Front l) : trimSpaceD l = stripR l.length l := by
  unfold trimSpaceD
  rw [left_front h, stripR_eq]
/-- THE SIGN STANDS IN FRONT OF WHAT IS TRIMMED -/
theorem trim_minus {l : List UInt8} (h : Front l) : trimSpaceD (45 :: l) = 45 :: trimSpaceD l := by
  have hf : Front (45 :: l) := fun c hc => by cases hc; exact ⟨by decide, by decide⟩
  rw [trim_front hf, trim_front h, stripR_cons]
  congr 1
  rw [stripR_eq, stripR_eq]
  exact trimRightD_fuel _ _ l (by simp) (Nat.le_refl _)
theorem trim_head {l : List UInt8} (h : Front l) (x : UInt8) (hx : (trimSpaceD l).head? = some x) : l.head? = some x := by
  rw [trim_front h] at hx
  obtain ⟨r, hr⟩ := stripR_prefix l.length l
  cases hs : stripR l.length l with
  | nil => rw [hs] at hx; cases hx
  | cons c q =>
    rw [hs] at hx hr
    rw [← hr]
    exact hx
theorem trimR_le : ∀ (f : Nat) (l : List UInt8), (trimRightD f l).length ≤ l.length := fun f l => by
  rw [← stripR_eq]
  exact (stripR_prefix f l).length_le
theorem trim_len (l : List UInt8) : (trimSpaceD l).length ≤ l.length := Nat.le_trans (trimR_le _ _) (trimLeftD_le _ _)
/-- what atoi makes of the signed text -/
theorem at_signed {l : List UInt8} (h : Front l) (n1 : ¬ l.head? = some 43) (n2 : ¬ l.head? = some 45) : atD (trimSpaceD (45 :: l)) = wrap64 (-atD (trimSpaceD l)) := by
  rw [trim_minus h]
  have e1 : atD (45 :: trimSpaceD l) = wrap64 (-body (trimSpaceD l)) := rfl
  have e2 : atD (trimSpaceD l) = body (trimSpaceD l) := by
    unfold atD
    rw [if_neg (fun e => n1 (trim_head h _ e)), if_neg (fun e => n2 (trim_head h _ e))]
  rw [e1, e2]
end Go.Proofs.YtopaaaacbegmnaaDoor
