/-
  The plain law of atoi and of the laws' model of it: digits, bases, saturation, the large bases. No program in this text. Conditions: those in each theorem.
-/
import Derived.RowKit
import Derived.Lib.ParseIntB
import Derived.Lib.IndexBytes
import Derived.Lib.ParseIntBCases
import Derived.Lib.TrimAscii
import Derived.Lib.SpaceUEq
namespace Go.Proofs.YtopaaaacbegmnaaDoor
set_option linter.unusedVariables false
open Go.RowKit

/-- a byte's digit in the bases up to 36; 99: none -/
def dig (c : Nat) : Nat := if 48 ≤ c ∧ c ≤ 57 then c - 48 else if 97 ≤ c ∧ c ≤ 122 then c - 87 else if 65 ≤ c ∧ c ≤ 90 then c - 55 else 99
/-- a byte's digit in the bases from 37 on; 99: none -/
def dig64 (c : Nat) : Nat := if 48 ≤ c ∧ c ≤ 57 then c - 48 else if 97 ≤ c ∧ c ≤ 122 then c - 87 else if 65 ≤ c ∧ c ≤ 90 then c - 29 else if c = 64 then 62 else if c = 95 then 63 else 99

inductive PE where
  | ok (n : Nat)
  | bad
  | over

/-- the number that digits of base b spell behind acc -/
def pu (b : Nat) : Nat → List UInt8 → PE
  | acc, [] => .ok acc
  | acc, c :: r => if b ≤ dig c.toNat then .bad else if 18446744073709551616 ≤ acc * b + dig c.toNat then .over else pu b (acc * b + dig c.toNat) r

def piV (neg : Bool) : PE → Int
  | .bad => 0
  | .over => if neg then -9223372036854775808 else 9223372036854775807
  | .ok u => if neg then (if 9223372036854775808 < u then -9223372036854775808 else -(u : Int)) else (if 9223372036854775808 ≤ u then 9223372036854775807 else (u : Int))
/-- what ParseInt(s, b, 64) hands back, its error left out -/
def pi (b : Nat) : List UInt8 → Int
  | [] => 0
  | c :: r => if c = 43 then piV false (pu b 0 r) else if c = 45 then piV true (pu b 0 r) else piV false (pu b 0 (c :: r))

/-- the bases from 37 on -/
def lg (b : Nat) : Nat → List UInt8 → Int
  | acc, [] => wrap64 acc
  | acc, c :: r => if b ≤ dig64 c.toNat then 0 else lg b ((acc * b + dig64 c.toNat) % 18446744073709551616) r

/-- the base that is written before '#'; 0: none -/
def basD : Nat → List UInt8 → Nat
  | v, [] => if v < 2 then 0 else v
  | v, c :: r => if ¬ (48 ≤ c.toNat ∧ c.toNat ≤ 57) then 0 else if 64 < v * 10 + (c.toNat - 48) then 0 else basD (v * 10 + (c.toNat - 48)) r
def bas : List UInt8 → Nat
  | [] => 0
  | c :: r => if c = 43 then basD 0 r else if c = 45 then 0 else basD 0 (c :: r)

def sepV (p s : List UInt8) : Int := if bas p = 0 then 0 else if 36 < bas p then lg (bas p) 0 s else pi (bas p) s
/-- behind the sign -/
def body (t : List UInt8) : Int :=
  if t.head? = some 48 then (if (t.drop 1).head? = some 120 ∨ (t.drop 1).head? = some 88 then pi 16 (t.drop 2) else pi 8 (t.drop 1))
  else if Lib.indexByte t 35 < 0 then pi 10 t
  else sepV (t.take (Lib.indexByte t 35).toNat) (t.drop ((Lib.indexByte t 35).toNat + 1))
/-- the trimmed text's value -/
def atD (t : List UInt8) : Int := if t.head? = some 43 then body (t.drop 1) else if t.head? = some 45 then wrap64 (-body (t.drop 1)) else body t

theorem piV_range (n : Bool) (e : PE) (h : ∀ u, e = .ok u → u < 18446744073709551616) : -9223372036854775808 ≤ piV n e ∧ piV n e ≤ 9223372036854775807 := by
  cases e with
  | bad => simp [piV]
  | over => cases n <;> simp [piV]
  | ok u =>
    cases n with
    | false => simp only [piV, Bool.false_eq_true, if_false]; split <;> omega
    | true => simp only [piV, if_true]; split <;> omega
theorem pu_lt (b : Nat) : ∀ (l : List UInt8) (acc : Nat), acc < 18446744073709551616 → ∀ u, pu b acc l = .ok u → u < 18446744073709551616
  | [], acc, h, u, e => by unfold pu at e; cases e; exact h
  | c :: r, acc, h, u, e => by
    unfold pu at e
    split at e
    · cases e
    · split at e
      · cases e
      · exact pu_lt b r _ (by omega) u e
theorem pi_range (b : Nat) (l : List UInt8) : -9223372036854775808 ≤ pi b l ∧ pi b l ≤ 9223372036854775807 := by
  cases l with
  | nil => simp [pi]
  | cons c r =>
    rw [show pi b (c :: r) = if c = 43 then piV false (pu b 0 r) else if c = 45 then piV true (pu b 0 r) else piV false (pu b 0 (c :: r)) from rfl]
    split
    · exact piV_range _ _ (pu_lt b _ 0 (by decide))
    · split
      · exact piV_range _ _ (pu_lt b _ 0 (by decide))
      · exact piV_range _ _ (pu_lt b _ 0 (by decide))
theorem wrap64_range (x : Int) : -9223372036854775808 ≤ wrap64 x ∧ wrap64 x ≤ 9223372036854775807 := by unfold wrap64; omega
theorem lg_range (b : Nat) : ∀ (l : List UInt8) (acc : Nat), -9223372036854775808 ≤ lg b acc l ∧ lg b acc l ≤ 9223372036854775807
  | [], acc => wrap64_range _
  | c :: r, acc => by
    unfold lg
    split
    · omega
    · exact lg_range b r _
theorem body_range (t : List UInt8) : -9223372036854775808 ≤ body t ∧ body t ≤ 9223372036854775807 := by
  unfold body sepV
  split
  · split
    · exact pi_range _ _
    · exact pi_range _ _
  · split
    · exact pi_range _ _
    · split
      · omega
      · split
        · exact lg_range _ _ _
        · exact pi_range _ _
theorem atD_range (t : List UInt8) : -9223372036854775808 ≤ atD t ∧ atD t ≤ 9223372036854775807 := by
  unfold atD
  split
  · exact body_range _
  · split
    · exact wrap64_range _
    · exact body_range _

theorem uM_step {c : UInt8} (hd : 48 ≤ c.toNat ∧ c.toNat ≤ 57) (acc : Nat) (r : List UInt8) : Lib.parseUintM 255 acc (c :: r) = if 1844674407370955162 ≤ acc then .range else if 255 < acc * 10 + (c.toNat - 48) then .range else Lib.parseUintM 255 (acc * 10 + (c.toNat - 48)) r := by
  rw [Lib.parseUintM, if_pos hd]
theorem basD_step {c : UInt8} (hd : 48 ≤ c.toNat ∧ c.toNat ≤ 57) (acc : Nat) (r : List UInt8) : basD acc (c :: r) = if 64 < acc * 10 + (c.toNat - 48) then 0 else basD (acc * 10 + (c.toNat - 48)) r := by
  rw [basD, if_neg (fun h => h hd)]
theorem uM_ge : ∀ (l : List UInt8) (acc u : Nat), Lib.parseUintM 255 acc l = .ok u → acc ≤ u
  | [], acc, u, e => by unfold Lib.parseUintM at e; cases e; omega
  | c :: r, acc, u, e => by
    by_cases hd : 48 ≤ c.toNat ∧ c.toNat ≤ 57
    · rw [uM_step hd] at e
      split at e
      · cases e
      · split at e
        · cases e
        · have := uM_ge r _ u e
          omega
    · rw [Lib.parseUintM, if_neg hd] at e; cases e
/-- THE BASE: what ParseInt(p, 10, 8) makes of it -/
theorem basD_of : ∀ (l : List UInt8) (acc : Nat), acc ≤ 64 → (∀ u, Lib.parseUintM 255 acc l = .ok u → basD acc l = if 2 ≤ u ∧ u ≤ 64 then u else 0) ∧ ((∀ u, Lib.parseUintM 255 acc l ≠ .ok u) → basD acc l = 0)
  | [], acc, h => by
    constructor
    · intro u e
      unfold Lib.parseUintM at e
      cases e
      unfold basD
      split <;> split <;> omega
    · intro e; exact absurd rfl (e acc)
  | c :: r, acc, h => by
    by_cases hd : 48 ≤ c.toNat ∧ c.toNat ≤ 57
    · rw [uM_step hd, basD_step hd, if_neg (by omega)]
      by_cases h64 : 64 < acc * 10 + (c.toNat - 48)
      · rw [if_pos h64]
        refine ⟨fun u e => ?_, fun _ => rfl⟩
        split at e
        · cases e
        · have := uM_ge r _ u e
          rw [if_neg (by omega)]
      · rw [if_neg h64, if_neg (by omega)]
        exact basD_of r _ (by omega)
    · rw [Lib.parseUintM, if_neg hd, basD, if_pos hd]
      exact ⟨fun u e => (by cases e), fun _ => rfl⟩
end Go.Proofs.YtopaaaacbegmnaaDoor
