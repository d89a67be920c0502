/-
  Plain facts: what charClass finds in a text it finds at the same place in every longer text.
-/
import Derived.Test.YtopaaaacbegmnaaFmtPlain2
namespace Go.Proofs.YtopaaaacbegmnaaFmt.Pl
open Go.Lib

theorem data_app (s t : ByteArray) : (s ++ t).data.toList = s.data.toList ++ t.data.toList := by simp
theorem size_app (s t : ByteArray) : (s ++ t).size = s.size + t.size := by simp

theorem shut_app (s t : ByteArray) (d : Int) (j : Nat) (hj : j + 1 < s.size) : shut (s ++ t) d j = shut s d j := by
  have hl : s.data.toList.length = s.size := by simp
  unfold shut
  rw [data_app]
  simp only [List.getD_eq_getElem?_getD]
  rw [List.getElem?_append_left (by omega), List.getElem?_append_left (by omega)]

theorem idx_app (s t : ByteArray) (d : Nat) (hd : d < 256) (i : Nat) (h : idx (s.extract 1 s.size) ⟨#[UInt8.ofNat d, 93]⟩ = i) : idx ((s ++ t).extract 1 (s ++ t).size) ⟨#[UInt8.ofNat d, 93]⟩ = i := by
  unfold idx at h ⊢
  have e : (s.extract 1 s.size).size + 1 - (⟨#[UInt8.ofNat d, 93]⟩ : ByteArray).size = s.size - 2 := by
    show (s.extract 1 s.size).size + 1 - 2 = s.size - 2
    simp; omega
  have e2 : ((s ++ t).extract 1 (s ++ t).size).size + 1 - (⟨#[UInt8.ofNat d, 93]⟩ : ByteArray).size = s.size + t.size - 2 := by
    show ((s ++ t).extract 1 (s ++ t).size).size + 1 - 2 = s.size + t.size - 2
    simp; omega
  rw [e] at h
  rw [e2]
  refine firstFrom_more (occ (s.extract 1 s.size) ⟨#[UInt8.ofNat d, 93]⟩) _ (s.size - 2) _ 0 i (fun j _ h2 => ?_) (by omega) h
  rw [occ_tail s d hd j (by omega), occ_tail (s ++ t) d hd j (by rw [size_app]; omega), shut_app s t d (j + 1) (by omega)]

theorem piece_app (s t : ByteArray) (i : Nat) (hi : i + 1 ≤ s.size) : ((s ++ t).extract 1 (s ++ t).size).extract 0 i = (s.extract 1 s.size).extract 0 i := by
  have hl : s.data.toList.length = s.size := by simp
  apply ByteArray.ext
  apply Array.toList_inj.1
  rw [extract_data, extract_data, extract_data, extract_data, data_app, size_app, List.drop_zero, List.drop_zero, List.take_take, List.take_take, List.drop_append_of_le_length (by omega),
    List.take_append_of_le_length (by rw [List.length_drop]; omega)]
  congr 1
  omega

theorem head_app (s t : ByteArray) (h0 : 0 < s.size) (h1 : 0 < (s ++ t).size) : (s ++ t)[0] = s[0] := by
  have hl : s.data.toList.length = s.size := by simp
  have e : (s ++ t).data.toList[0]? = s.data.toList[0]? := by rw [data_app, List.getElem?_append_left (by omega)]
  have a1 : (s ++ t).data.toList[0]? = some (s ++ t)[0] := by
    rw [List.getElem?_eq_getElem (by simp; simp at h1; omega)]; rfl
  have a2 : s.data.toList[0]? = some s[0] := by
    rw [List.getElem?_eq_getElem (by omega)]; rfl
  rw [a1, a2] at e
  exact Option.some.inj e

theorem idx_hit (s : ByteArray) (d : Nat) (hd : d < 256) (i : Nat) (hi : i + 2 < s.size) (h : idx (s.extract 1 s.size) ⟨#[UInt8.ofNat d, 93]⟩ = i) :
    (s[i + 1].toNat : Int) = d ∧ (s[i + 2].toNat : Int) = 93 := by
  have hl : s.data.toList.length = s.size := by simp
  have h1 := firstFrom_hit _ _ _ _ h
  rw [occ_tail s d hd i hi] at h1
  unfold shut at h1
  rw [Bool.and_eq_true, beq_iff_eq, beq_iff_eq] at h1
  simp only [List.getD_eq_getElem?_getD] at h1
  rw [List.getElem?_eq_getElem (by omega), List.getElem?_eq_getElem (by omega)] at h1
  exact h1
end Go.Proofs.YtopaaaacbegmnaaFmt.Pl
