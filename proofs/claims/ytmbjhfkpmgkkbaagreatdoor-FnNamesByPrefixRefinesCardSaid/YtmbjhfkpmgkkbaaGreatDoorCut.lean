/-
  The walks of the text search zzIndex and of zzCut over it, at the separator '=' in the words of strings.IndexByte's law. Condition: texts of at most 2 to the 30 bytes.
-/
import Derived.Test.YtmbjhfkpmgkkbaaGreatDoorProg
import Derived.WalkKit
import Derived.WalkSpells
import Derived.Lib.Hide
import Derived.Deep.QuietTactic
import Derived.BigQuiet
import Derived.Lib.IndexBytes
namespace Go.Proofs.YtmbjhfkpmgkkbaaGreatDoor.Pl
/-- The first place from k on, of n places, at which p answers yes; -1 if there is none. -/
def firstFrom (p : Nat → Bool) (k : Nat) : Nat → Int
  | 0 => -1
  | n + 1 => if p k then (k : Int) else firstFrom p (k + 1) n

theorem firstFrom_ge (p : Nat → Bool) : ∀ n k, firstFrom p k n = -1 ∨ ((k : Int) ≤ firstFrom p k n ∧ firstFrom p k n < (k : Int) + n) := by
  intro n
  induction n with
  | zero => intro k; exact Or.inl rfl
  | succ n ih =>
    intro k
    unfold firstFrom
    split
    · right; omega
    · rcases ih (k + 1) with h | h
      · exact Or.inl h
      · right; omega

theorem firstFrom_hit (p : Nat → Bool) : ∀ n k (i : Nat), firstFrom p k n = (i : Int) → p i = true := by
  intro n
  induction n with
  | zero => intro k i h; simp [firstFrom] at h
  | succ n ih =>
    intro k i h
    unfold firstFrom at h
    split at h
    · rename_i c
      have : k = i := by omega
      rw [← this]; exact c
    · exact ih _ _ h

/-- More places behind: a first place that was there stays the first place. -/
theorem firstFrom_more (p q : Nat → Bool) : ∀ n m k (i : Nat), (∀ j, k ≤ j → j < k + n → q j = p j) → n ≤ m → firstFrom p k n = (i : Int) → firstFrom q k m = (i : Int) := by
  intro n
  induction n with
  | zero => intro m k i _ _ h; simp [firstFrom] at h
  | succ n ih =>
    intro m k i hq hm h
    obtain ⟨m', rfl⟩ : ∃ m', m = m' + 1 := ⟨m - 1, by omega⟩
    have h0 := hq k (Nat.le_refl _) (by omega)
    unfold firstFrom at h ⊢
    rw [h0]
    split at h
    · rename_i c; rw [if_pos c]; exact h
    · rename_i c; rw [if_neg c]
      exact ih m' (k + 1) i (fun j h1 h2 => hq j (by omega) (by omega)) (by omega) h

/-- 'sub' stands in s at place i. -/
def occ (s sub : ByteArray) (i : Nat) : Bool := (s.extract i (i + sub.size)).data.toList == sub.data.toList
def idx (s sub : ByteArray) : Int := firstFrom (occ s sub) 0 (s.size + 1 - sub.size)
end Go.Proofs.YtmbjhfkpmgkkbaaGreatDoor.Pl
namespace Go.Proofs.YtmbjhfkpmgkkbaaGreatDoor
set_option linter.unusedVariables false
open Go.RowKit Go.Lib

theorem occ_step {s sub : ByteArray} {k : Nat} (hlt : k + sub.size ≤ s.size) (h1 : 1 ≤ sub.size) (hp : ((s.extract k (k + sub.size)).toList == sub.toList) = false)
    (HF : Hid (Pl.firstFrom (Pl.occ s sub) k (s.size + 1 - sub.size - k) = Pl.idx s sub)) : Hid (Pl.firstFrom (Pl.occ s sub) (k + 1) (s.size + 1 - sub.size - (k + 1)) = Pl.idx s sub) := by
  have h := HF.out
  obtain ⟨n, hn⟩ : ∃ n, s.size + 1 - sub.size - k = n + 1 := ⟨s.size - sub.size - k, by omega⟩
  have hn' : s.size + 1 - sub.size - (k + 1) = n := by omega
  rw [hn] at h
  unfold Pl.firstFrom at h
  have hq : Pl.occ s sub k = false := by unfold Pl.occ; rw [← Lib.toList_data, ← Lib.toList_data]; exact hp
  rw [if_neg (by rw [hq]; decide)] at h
  show _ = _
  rw [hn', h]
theorem occ_hit {s sub : ByteArray} {k : Nat} (hlt : k + sub.size ≤ s.size) (h1 : 1 ≤ sub.size) (hp : ((s.extract k (k + sub.size)).toList == sub.toList) = true)
    (HF : Hid (Pl.firstFrom (Pl.occ s sub) k (s.size + 1 - sub.size - k) = Pl.idx s sub)) : Pl.idx s sub = k := by
  have h := HF.out
  obtain ⟨n, hn⟩ : ∃ n, s.size + 1 - sub.size - k = n + 1 := ⟨s.size - sub.size - k, by omega⟩
  rw [hn] at h
  unfold Pl.firstFrom at h
  have hq : Pl.occ s sub k = true := by unfold Pl.occ; rw [← Lib.toList_data, ← Lib.toList_data]; exact hp
  rw [if_pos hq] at h
  exact h.symm
theorem occ_end {s sub : ByteArray} {k : Nat} (hlt : ¬ k + sub.size ≤ s.size) (HF : Hid (Pl.firstFrom (Pl.occ s sub) k (s.size + 1 - sub.size - k) = Pl.idx s sub)) : Pl.idx s sub = -1 := by
  have h := HF.out
  have hn : s.size + 1 - sub.size - k = 0 := by omega
  rw [hn] at h
  exact h.symm
theorem ret_int {k : IntKind} {a b : Int} (h : a = b) : Ending.returned (.int k a) = .returned (.int k b) := by rw [h]

set_option maxHeartbeats 400000 in
theorem zzIndex_any (s sub : ByteArray) (w : World) (hs : s.size ≤ 1073741824) (h1 : 1 ≤ sub.size) (h2 : sub.size ≤ 1073741824) :
    Calls Tryz.prog 29 #[.string s, .string sub] w fun e w' => e = .returned (.int .i64 (Pl.idx s sub)) ∧ w = w' := by
  go_enter Tryz.func29, Tryz.ntmps29
  go_wp2
  go_loop [5] (fun i => ∃ k : Nat, k ≤ s.size + 1 - sub.size ∧ i = .int .i64 k ∧ Hid (Pl.firstFrom (Pl.occ s sub) k (s.size + 1 - sub.size - k) = Pl.idx s sub)) (fun i => s.size + 1 - (intOf i).toNat)
  case atStart => exact ⟨0, Nat.zero_le _, rfl, rfl⟩
  case round =>
    obtain ⟨k, hk, rfl, HF⟩ := hrel
    by_cases hlt : k + sub.size ≤ s.size
    · cases hp : ((s.extract k (k + sub.size)).toList == sub.toList) with
      | true =>
        have H := Lib.hid (occ_hit hlt h1 hp HF)
        go_wp2
        go_ret
        exact ⟨ret_int H.out.symm, rfl⟩
      | false =>
        have H := occ_step hlt h1 hp HF
        go_wp2
        go_round
        case rel => exact ⟨k + 1, by omega, by go_num, H⟩
        case measure => simp [intOf]; omega
    · have H := Lib.hid (occ_end hlt HF)
      go_wp2
      go_ret
      exact ⟨ret_int H.out.symm, rfl⟩

set_option maxHeartbeats 400000 in
theorem zzCut_yes (s sub : ByteArray) (w : World) (i : Nat) (hs : s.size ≤ 1073741824) (h1 : 1 ≤ sub.size) (h2 : sub.size ≤ 1073741824) (hi : i + sub.size ≤ s.size) (H : Hid (Pl.idx s sub = i)) :
    Calls Tryz.prog 21 #[.string s, .string sub] w fun e w' => e = .returned (.tuple #[.string (s.extract 0 i), .string (s.extract (i + sub.size) s.size), .bool true]) ∧ ∃ n, w' = w.drewN n := by
  go_enter Tryz.func21, Tryz.ntmps21
  go_wp2_with (go_at_call 29; refine (zzIndex_any _ _ _ hs h1 h2).mono ?_; rintro e w' ⟨rfl, rfl⟩; rw [H.out])
  have e1 : IntKind.i64.wrap ((i : Int) + (sub.size : Int)) = (i : Int) + (sub.size : Int) := by rw [IntKind.wrap_i64]; omega
  have e2 : (0 : Int) ≤ (i : Int) + (sub.size : Int) := by omega
  have e3 : ((i : Int) + (sub.size : Int)).toNat = i + sub.size := by omega
  have e4 : (i : Int) + (sub.size : Int) ≤ (s.size : Int) := by omega
  have e5 : (i : Int) ≤ (s.size : Int) := by omega
  go_quiet (fail)
  clear e1 e3
  go_wp2
  go_ret3
  exact ⟨rfl, _, rfl⟩

set_option maxHeartbeats 400000 in
theorem zzCut_no (s sub : ByteArray) (w : World) (hs : s.size ≤ 1073741824) (h1 : 1 ≤ sub.size) (h2 : sub.size ≤ 1073741824) (H : Hid (Pl.idx s sub = -1)) :
    Calls Tryz.prog 21 #[.string s, .string sub] w fun e w' => e = .returned (.tuple #[.string s, .string ⟨#[]⟩, .bool false]) ∧ w = w' := by
  go_enter Tryz.func21, Tryz.ntmps21
  go_wp2_with (go_at_call 29; refine (zzIndex_any _ _ _ hs h1 h2).mono ?_; rintro e w' ⟨rfl, rfl⟩; rw [H.out])
  go_ret3
  exact ⟨rfl, rfl⟩
/-- the same, the two pieces under names -/
theorem zzCut_named (s sub : ByteArray) (w : World) (i : Nat) (hs : s.size ≤ 1073741824) (h1 : 1 ≤ sub.size) (h2 : sub.size ≤ 1073741824) (hi : i + sub.size ≤ s.size) (H : Hid (Pl.idx s sub = i)) (b a : ByteArray)
    (hb : Hid (b = s.extract 0 i)) (ha : Hid (a = s.extract (i + sub.size) s.size)) :
    Calls Tryz.prog 21 #[.string s, .string sub] w fun e w' => e = .returned (.tuple #[.string b, .string a, .bool true]) ∧ ∃ n, w' = w.drewN n := by
  rw [hb.out, ha.out]
  exact zzCut_yes s sub w i hs h1 h2 hi H

theorem firstFrom_none (p : Nat → Bool) : ∀ n k, Pl.firstFrom p k n = -1 → ∀ j, k ≤ j → j < k + n → p j = false := by
  intro n
  induction n with
  | zero => intro k _ j h1 h2; exfalso; omega
  | succ n ih =>
    intro k h j h1 h2
    unfold Pl.firstFrom at h
    split at h
    · exfalso; omega
    · rename_i c
      by_cases e : j = k
      · rw [e]; simpa using c
      · exact ih (k + 1) h j (by omega) (by omega)
theorem firstFrom_before (p : Nat → Bool) : ∀ n k (i : Nat), Pl.firstFrom p k n = (i : Int) → ∀ j, k ≤ j → j < i → p j = false := by
  intro n
  induction n with
  | zero => intro k i h; simp [Pl.firstFrom] at h
  | succ n ih =>
    intro k i h j h1 h2
    unfold Pl.firstFrom at h
    split at h
    · exfalso; omega
    · rename_i c
      by_cases e : j = k
      · rw [e]; simpa using c
      · exact ih (k + 1) i h j (by omega) h2

theorem occ_eq (s : ByteArray) (i : Nat) (hi : i < s.size) : Pl.occ s ⟨#[61]⟩ i = (s.data.toList[i]? == some 61) := by
  have hl : s.data.toList.length = s.size := by simp
  unfold Pl.occ
  show ((s.extract i (i + 1)).data.toList == [61]) = _
  rw [extract_data, show i + 1 - i = 1 from by omega, List.drop_eq_getElem_cons (by omega), List.getElem?_eq_getElem (by omega)]
  simp [List.cons_beq_cons]

theorem idx_eq (s : ByteArray) : Pl.idx s ⟨#[61]⟩ = indexByte s.data.toList 61 := by
  have hl : s.data.toList.length = s.size := by simp
  have h1 : (⟨#[61]⟩ : ByteArray).size = 1 := rfl
  rcases Pl.firstFrom_ge (Pl.occ s ⟨#[61]⟩) (s.size + 1 - 1) 0 with h | ⟨h2, h3⟩
  · have hi : Pl.idx s ⟨#[61]⟩ = -1 := h
    rw [hi]
    by_cases c : indexByte s.data.toList 61 = -1
    · exact c.symm
    · exfalso
      obtain ⟨j, hj⟩ : ∃ j : Nat, indexByte s.data.toList 61 = j := ⟨(indexByte s.data.toList 61).toNat, by have := indexByte_ge s.data.toList 61; omega⟩
      have hg := (indexByte_some hj).1
      have hjl : j < s.data.toList.length := (List.getElem?_eq_some_iff.1 hg).1
      have := firstFrom_none _ _ _ h j (Nat.zero_le _) (by omega)
      rw [occ_eq s j (by omega), hg] at this
      simp at this
  · obtain ⟨i, hi⟩ : ∃ i : Nat, Pl.idx s ⟨#[61]⟩ = i := ⟨(Pl.idx s ⟨#[61]⟩).toNat, by show Pl.idx s ⟨#[61]⟩ = _; unfold Pl.idx; rw [h1]; omega⟩
    have hi' : Pl.firstFrom (Pl.occ s ⟨#[61]⟩) 0 (s.size + 1 - 1) = (i : Int) := hi
    have him : i < s.size := by omega
    have hp := Pl.firstFrom_hit _ _ _ _ hi'
    rw [occ_eq s i him] at hp
    have hp' : s.data.toList[i]? = some 61 := by simpa using hp
    rw [hi]
    by_cases c : indexByte s.data.toList 61 = -1
    · exact absurd hp' (indexByte_none c i)
    · obtain ⟨j, hj⟩ : ∃ j : Nat, indexByte s.data.toList 61 = j := ⟨(indexByte s.data.toList 61).toNat, by have := indexByte_ge s.data.toList 61; omega⟩
      rw [hj]
      rcases Nat.lt_trichotomy i j with e | e | e
      · exact absurd hp' ((indexByte_some hj).2 i e)
      · rw [e]
      · exfalso
        have := firstFrom_before _ _ _ _ hi' j (Nat.zero_le _) e
        rw [occ_eq s j (by omega), (indexByte_some hj).1] at this
        simp at this

/-- zzCut at '=': where it stands -/
theorem cutEq_some (s : ByteArray) (w : World) (i : Nat) (hs : s.size ≤ 1073741824) (h : indexByte s.data.toList 61 = i) (b a : ByteArray) (hb : Hid (b = s.extract 0 i)) (ha : Hid (a = s.extract (i + 1) s.size)) :
    Calls Tryz.prog 21 #[.string s, .string ⟨#[61]⟩] w fun e w' => e = .returned (.tuple #[.string b, .string a, .bool true]) ∧ ∃ n, w' = w.drewN n := by
  have hl : s.data.toList.length = s.size := by simp
  have hi : i < s.data.toList.length := (List.getElem?_eq_some_iff.1 (indexByte_some h).1).1
  exact zzCut_named s ⟨#[61]⟩ w i hs (by decide) (by decide) (by show i + 1 ≤ s.size; omega) (by show _ = _; rw [idx_eq, h]) b a hb ha
/-- zzCut at '=': where none stands -/
theorem cutEq_none (s : ByteArray) (w : World) (hs : s.size ≤ 1073741824) (h : indexByte s.data.toList 61 = -1) :
    Calls Tryz.prog 21 #[.string s, .string ⟨#[61]⟩] w fun e w' => e = .returned (.tuple #[.string s, .string ⟨#[]⟩, .bool false]) ∧ w = w' :=
  zzCut_no s ⟨#[61]⟩ w hs (by decide) (by decide) (by show _ = _; rw [idx_eq, h])
end Go.Proofs.YtmbjhfkpmgkkbaaGreatDoor
