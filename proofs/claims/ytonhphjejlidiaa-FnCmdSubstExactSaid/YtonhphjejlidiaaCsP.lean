/-
  Plain law: the text without its NUL bytes and its trailing newlines. No program in sight; no condition beyond those in each theorem.
-/
import Derived.WalkKit
namespace Go.Proofs.Ytonhphjejlidiaa

/-- the bytes that are no NUL -/
def noNul (l : List UInt8) : List UInt8 := l.filter (· != 0)
/-- the text without its trailing bytes of the set p -/
def rtrim (p : UInt8 → Bool) (l : List UInt8) : List UInt8 := (l.reverse.dropWhile p).reverse
theorem rtrim_snoc_yes {p : UInt8 → Bool} {l : List UInt8} {c : UInt8} (h : p c = true) : rtrim p (l ++ [c]) = rtrim p l := by
  unfold rtrim; simp [h]
theorem rtrim_snoc_no {p : UInt8 → Bool} {l : List UInt8} {c : UInt8} (h : p c = false) : rtrim p (l ++ [c]) = l ++ [c] := by
  unfold rtrim; simp [h]
theorem rtrim_nil (p : UInt8 → Bool) : rtrim p [] = [] := rfl
def nl (c : UInt8) : Bool := c == 10
def nlz (c : UInt8) : Bool := c == 0 || c == 10
theorem noNul_snoc (l : List UInt8) (c : UInt8) : noNul (l ++ [c]) = noNul l ++ (if c = 0 then [] else [c]) := by
  unfold noNul
  rw [List.filter_append]
  by_cases h : c = 0 <;> simp [h]
theorem trim_law : ∀ (n : Nat) (l : List UInt8), l.length = n → rtrim nl (noNul l) = noNul (rtrim nlz l)
  | 0, l, h => by obtain rfl : l = [] := List.eq_nil_of_length_eq_zero h; rfl
  | n + 1, l, h => by
    obtain ⟨m, c, rfl⟩ : ∃ m c, l = m ++ [c] := ⟨l.dropLast, l.getLast (by rintro rfl; simp at h), (List.dropLast_concat_getLast _).symm⟩
    have ih := trim_law n m (by simpa using h)
    rw [noNul_snoc]
    by_cases h0 : c = 0
    · rw [if_pos h0, List.append_nil, rtrim_snoc_yes (by rw [h0]; rfl), ih]
    · rw [if_neg h0]
      by_cases h1 : c = 10
      · rw [rtrim_snoc_yes (by rw [h1]; rfl), rtrim_snoc_yes (by rw [h1]; rfl), ih]
      · rw [rtrim_snoc_no (by simp [nl, h1]), rtrim_snoc_no (by simp [nlz, h0, h1]), noNul_snoc, if_neg h0]
/-- a take that ends at a byte that is not of the set, all behind it of the set -/
theorem rtrim_take (p : UInt8 → Bool) : ∀ (m : Nat) (l : List UInt8) (n : Nat), l.length = n + m → (∀ j, n ≤ j → ∀ c, l[j]? = some c → p c = true) → (n = 0 ∨ ∃ c, l[n - 1]? = some c ∧ p c = false) → rtrim p l = l.take n
  | 0, l, n, h, _, hz => by
    rw [List.take_of_length_le (by omega)]
    rcases hz with rfl | ⟨c, hc, hp⟩
    · obtain rfl : l = [] := List.eq_nil_of_length_eq_zero (by omega)
      rfl
    · obtain ⟨m, d, rfl⟩ : ∃ m d, l = m ++ [d] := ⟨l.dropLast, l.getLast (by rintro rfl; simp at hc), (List.dropLast_concat_getLast _).symm⟩
      have hm : m.length = n - 1 := by simp at h; omega
      rw [List.getElem?_append_right (by omega), hm] at hc
      simp at hc
      subst hc
      exact rtrim_snoc_no hp
  | m + 1, l, n, h, hp, hz => by
    obtain ⟨k, d, rfl⟩ : ∃ k d, l = k ++ [d] := ⟨l.dropLast, l.getLast (by rintro rfl; simp at h), (List.dropLast_concat_getLast _).symm⟩
    have hk : k.length = n + m := by simp at h; omega
    have hd : p d = true := hp (n + m) (by omega) d (by rw [List.getElem?_append_right (by omega), hk]; simp)
    rw [rtrim_snoc_yes hd, rtrim_take p m k n hk (fun j hj c hc => hp j hj c (by
      have := (List.getElem?_eq_some_iff.1 hc).1
      rw [List.getElem?_append_left this]; exact hc)) ?_, List.take_append_of_le_length (by omega)]
    rcases hz with h0 | ⟨c, hc, hq⟩
    · exact .inl h0
    · by_cases h0 : n = 0
      · exact .inl h0
      · exact .inr ⟨c, by rw [List.getElem?_append_left (by omega)] at hc; exact hc, hq⟩

end Go.Proofs.Ytonhphjejlidiaa
