/-
  THE LAW FnCharClassCaseTable AT EVERY TEXT: its ways brought together.
-/
import Derived.Test.YtopaaaacbegmnaaFmtLawA
namespace Go.Proofs.YtopaaaacbegmnaaFmt
set_option linter.unusedVariables false
open Go.RowKit Go.Extern.Stop Go.Stop Go.Extern Go.Lib

theorem close_no {s : ByteArray} {d : Nat} (hd : d < 256) (h : Pl.idx (s.extract 1 s.size) ⟨#[UInt8.ofNat d, 93]⟩ = -1) : Pl.closeAt s (d : Int) = -1 := by
  rw [Pl.closeAt_idx s d hd, if_pos h]
theorem close_yes {s : ByteArray} {d i : Nat} (hd : d < 256) (h : Pl.idx (s.extract 1 s.size) ⟨#[UInt8.ofNat d, 93]⟩ = i) : Pl.closeAt s (d : Int) = (i : Int) + 1 := by
  rw [Pl.closeAt_idx s d hd, if_neg (by omega), h]
theorem bytes_of_list {b : ByteArray} {l : List UInt8} (h : (b.toList == l) = true) : b = ⟨l.toArray⟩ := by
  rw [beq_iff_eq, toList_data] at h
  apply ByteArray.ext
  rw [← h]

theorem law3_all (F : Interp) (s : ByteArray) (w : World) (hF : F.answers w.tape) : Calls Tryf.prog 3 #[.string s] w (Yes w) := by
  by_cases hb : 131072 < s.size
  · exact law3_big s w hb
  have hs : s.size ≤ 131072 := by omega
  by_cases h0 : 0 < s.size
  · have hp := Pl.head_piece s h0
    have ht : (s.extract 1 s.size).size = s.size - 1 := by simp
    by_cases c46 : ((s[0].toNat : Nat) : Int) = 46
    · rcases Pl.idx_cases (s.extract 1 s.size) ⟨#[46, 93]⟩ with h | ⟨i, h, hi⟩
      · exact law3_no46 F s w hF hs h0 c46 h (close_no (d := 46) (by omega) h)
      · exact law3_yes46 F s w hF hs h0 c46 i hi h (close_yes (d := 46) (by omega) h)
    by_cases c61 : ((s[0].toNat : Nat) : Int) = 61
    · rcases Pl.idx_cases (s.extract 1 s.size) ⟨#[61, 93]⟩ with h | ⟨i, h, hi⟩
      · exact law3_no61 F s w hF hs h0 c61 h (close_no (d := 61) (by omega) h)
      · exact law3_yes61 F s w hF hs h0 c61 i hi h (close_yes (d := 61) (by omega) h)
    by_cases c58 : ((s[0].toNat : Nat) : Int) = 58
    · have hp' : ((s.extract 0 1).toList == [58]) = true := by rw [hp, beq_iff_eq]; exact c58
      rcases Pl.idx_cases (s.extract 1 s.size) ⟨#[58, 93]⟩ with h | ⟨i, h, hi⟩
      · exact law3_no58 F s w hF hs h0 c58 hp' h (close_no (d := 58) (by omega) h)
      · have hi' : i + 2 ≤ (s.extract 1 s.size).size := hi
        have HB : (s.extract 1 s.size).extract 0 i = s.extract 1 (i + 1) := by
          rcases Pl.piece_eq s i with e | e
          · exact e
          · exfalso; omega
        by_cases hc : ∃ l, l ∈ Pl.classes ∧ ((s.extract 1 (i + 1)).toList == l) = true
        · obtain ⟨l, hl, hbl⟩ := hc
          exact law3_good s w hs h0 c58 hp' i hi' (by omega) h (close_yes (d := 58) (by omega) h) HB.symm l hl (bytes_of_list hbl)
        · exact law3_bad F s w hF hs h0 c58 hp' i hi' (by omega) h (close_yes (d := 58) (by omega) h) HB.symm (fun l hl => by
            cases e : ((s.extract 1 (i + 1)).toList == l)
            · rfl
            · exact absurd ⟨l, hl, e⟩ hc)
    · have f : ∀ k : Int, ¬ ((s[0].toNat : Nat) : Int) = k → (((s[0].toNat : Nat) : Int) == k) = false ∧ (((s[0].toNat : Nat) : Int) != k) = true := fun k h => ⟨beq_eq_false_iff_ne.2 h, bne_iff_ne.2 h⟩
      exact law3_plain s w hs h0 (f _ c46).1 (f _ c61).1 (f _ c58).1 (f _ c46).2 (f _ c61).2 (f _ c58).2 (by rw [hp]; exact (f _ c58).1)
  · have : s = ⟨#[]⟩ := by
      apply ByteArray.ext
      apply Array.eq_empty_of_size_eq_zero
      have : s.data.size = s.size := rfl
      omega
    rw [this]
    exact law3_empty w
end Go.Proofs.YtopaaaacbegmnaaFmt
