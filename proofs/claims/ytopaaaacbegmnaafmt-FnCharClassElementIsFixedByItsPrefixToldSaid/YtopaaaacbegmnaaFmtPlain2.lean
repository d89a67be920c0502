/-
  Plain facts: the closing pair of bytes of a text and the first place of the separator in its tail are one thing. No conditions beyond those in each theorem.
-/
import Derived.Test.YtopaaaacbegmnaaFmtPlain
import Derived.Lib.Strings
namespace Go.Proofs.YtopaaaacbegmnaaFmt.Pl
open Go.Lib

theorem toNat_beq (x : UInt8) (n : Nat) (hn : n < 256) : (((x.toNat : Nat) : Int) == (n : Int)) = (x == UInt8.ofNat n) := by
  rw [Bool.eq_iff_iff, beq_iff_eq, beq_iff_eq]
  constructor
  · intro h
    apply UInt8.toNat_inj.1
    rw [UInt8.toNat_ofNat_of_lt' hn]; omega
  · intro h
    rw [h, UInt8.toNat_ofNat_of_lt' hn]

theorem occ_tail (s : ByteArray) (d : Nat) (hd : d < 256) (i : Nat) (hi : i + 2 < s.size) :
    occ (s.extract 1 s.size) ⟨#[UInt8.ofNat d, 93]⟩ i = shut s (d : Int) (i + 1) := by
  have e : ((s.extract 1 s.size).extract i (i + 2)).data.toList = [s.data.toList.getD (i + 1) 0, s.data.toList.getD (i + 2) 0] := by
    have hl : s.data.toList.length = s.size := by simp
    rw [extract_data, extract_data]
    have h2 : i + 2 < s.data.toList.length := by omega
    rw [← hl]
    clear hl hi
    generalize s.data.toList = l at h2
    have e1 : (l.drop 1).take (l.length - 1) = l.drop 1 := List.take_of_length_le (by simp)
    rw [e1, List.drop_drop, show i + 2 - i = 2 from by omega, show 1 + i = i + 1 from by omega]
    rw [List.drop_eq_getElem_cons (by omega : i + 1 < l.length), List.drop_eq_getElem_cons (by omega : i + 1 + 1 < l.length)]
    simp only [List.take_succ_cons, List.take_zero, List.getD_eq_getElem?_getD]
    rw [List.getElem?_eq_getElem (by omega : i + 1 < l.length), List.getElem?_eq_getElem (by omega : i + 2 < l.length)]
    rfl
  show (((s.extract 1 s.size).extract i (i + 2)).data.toList == [UInt8.ofNat d, 93]) = _
  rw [e]
  unfold shut
  have h93 : (((s.data.toList.getD (i + 1 + 1) 0).toNat : Int) == 93) = (s.data.toList.getD (i + 2) 0 == 93) := toNat_beq _ 93 (by omega)
  rw [h93, toNat_beq _ d hd]
  simp [List.cons_beq_cons]

theorem closeAt_idx (s : ByteArray) (d : Nat) (hd : d < 256) : closeAt s (d : Int) = if idx (s.extract 1 s.size) ⟨#[UInt8.ofNat d, 93]⟩ = -1 then -1 else idx (s.extract 1 s.size) ⟨#[UInt8.ofNat d, 93]⟩ + 1 := by
  unfold closeAt idx
  have e : (s.extract 1 s.size).size + 1 - (⟨#[UInt8.ofNat d, 93]⟩ : ByteArray).size = s.size - 2 := by
    show (s.extract 1 s.size).size + 1 - 2 = s.size - 2
    simp; omega
  rw [e]
  exact firstFrom_shift (occ (s.extract 1 s.size) ⟨#[UInt8.ofNat d, 93]⟩) (shut s (d : Int)) (s.size - 2) 0 (fun i _ h2 => (occ_tail s d hd i (by omega)).symm)

/-- an index of a place is -1 or a place where the text stands -/
theorem idx_cases (s sub : ByteArray) : idx s sub = -1 ∨ ∃ i : Nat, idx s sub = i ∧ i + sub.size ≤ s.size := by
  rcases firstFrom_ge (occ s sub) (s.size + 1 - sub.size) 0 with h | ⟨h1, h2⟩
  · exact Or.inl h
  · refine Or.inr ⟨(idx s sub).toNat, ?_, ?_⟩
    · unfold idx; omega
    · have : (idx s sub).toNat < s.size + 1 - sub.size := by unfold idx; omega
      omega

/-- the piece ahead of the place, cut out of the text or out of its tail -/
theorem piece_eq (s : ByteArray) (i : Nat) : (s.extract 1 s.size).extract 0 i = s.extract 1 (i + 1) ∨ s.size < i + 1 := by
  by_cases h : s.size < i + 1
  · exact Or.inr h
  · left
    apply ByteArray.ext
    apply Array.toList_inj.1
    rw [extract_data, extract_data, extract_data, List.drop_zero, List.take_take]
    congr 1
    omega

theorem head_piece (s : ByteArray) (h0 : 0 < s.size) : ((s.extract 0 1).toList == [58]) = (((s[0].toNat : Nat) : Int) == 58) := by
  rw [toList_data, extract_data, List.drop_zero]
  have hl : s.data.toList.length = s.size := by simp
  have e : s.data.toList.take 1 = [s[0]] := by
    rw [show s.data.toList.take 1 = s.data.toList.take (0 + 1) from rfl, List.take_succ_eq_append_getElem (by omega)]
    rfl
  show (s.data.toList.take 1 == [58]) = _
  rw [e, show (((s[0].toNat : Nat) : Int) == 58) = (s[0] == 58) from toNat_beq _ 58 (by omega)]
  simp [List.cons_beq_cons]
end Go.Proofs.YtopaaaacbegmnaaFmt.Pl
