/-
  The walk of FnSpacePadPadsToColumn: one of its cases. Conditions: those in each theorem.
-/
import Derived.Test.YtonhphjejlidiaaPdT
import Derived.Test.YtonhphjejlidiaaTm
import Derived.Test.YtonhphjejlidiaaL5
import Derived.Test.YtonhphjejlidiaaL6
namespace Go.Proofs.Ytonhphjejlidiaa
set_option linter.unusedVariables false
open Go.Shelf Go.RowKit Go.Lib

set_option maxRecDepth 20000 in
set_option maxHeartbeats 16000000 in
theorem law12t12 (ind : Nat) (s : ByteArray) (line col lc : Nat) (w : World) (hss : s.size ≤ 65536) (hindb : ind ≤ 18446744073709551615) (hli : line ≤ 262143) (hco : col ≤ 16383) (hor : bits .or .u32 ((line : Int) * 16384) (col : Int) = (lc : Int)) (hlc : lc ≤ 4294967295) (hmod : lc % 16384 = col) (C : Nat) (hCL : addL (1, true) s.data.toList = (C, true)) (hnz : ¬ ind = 0) (hcase : C + 1 < col) :
    Calls Try.prog 12 #[.int .u64 ind, .string s, .int .u8 1, .int .u32 line, .int .u32 col] w fun e w' => e = .returned (.bool true) ∧ Below w.heap.size w w' := by
  have hlii : (line : Int) ≤ 262143 := by omega
  have hcoi : (col : Int) ≤ 16383 := by omega
  have hsi : (s.size : Int) ≤ 65536 := by omega
  have hl0 : (0 : Int) ≤ (line : Int) := by omega
  have hib : (ind : Int) ≤ 18446744073709551615 := by omega
  have hcasei : (C : Int) + 1 < (col : Int) := by omega
  have hnzi : ¬ (ind : Int) = 0 := by omega
  have hnzb : ((ind : Int) == 0) = false := by simpa using hnzi
  have hMi : (((col - C) : Nat) : Int) = (col : Int) - (C : Int) := by omega
  obtain ⟨M, hM⟩ : ∃ M, M = col - C := ⟨_, rfl⟩
  obtain ⟨t, ht⟩ : ∃ t : ByteArray, t.data.toList = [] ++ s.data.toList ++ List.replicate M 32 := ⟨⟨_⟩, rfl⟩
  obtain ⟨t1, t2, t3⟩ := app_size s M t ht
  have HT1 : Hid (∀ m, m = col - (C + 1) → t.data.toList = [] ++ s.data.toList ++ [32] ++ List.replicate m 32) := Lib.hid fun m hm => by
    rw [ht, hm, show M = 1 + (col - (C + 1)) by omega, ← List.replicate_append_replicate, ← List.append_assoc]; rfl
  have HB := Lib.hid t3
  have HM := Lib.hid hM
  have hMM : (M : Int) = (col : Int) - (C : Int) := by rw [hM]; omega
  have ti : (t.size : Int) = (s.size : Int) + (M : Int) := by omega
  have qs : ((t.extract 0 s.size).toList == s.toList) = true := by simp [t2]
  obtain ⟨f0, hf0⟩ : ∃ f0, f0 = stepL true (readyF true ind) s.data.toList := ⟨_, rfl⟩
  have HF := Lib.hid hf0
  have hls : f0.ls = true := by rw [hf0]; show (addL (1, true) s.data.toList).2 = true; rw [hCL]
  have hcl : f0.col = C := by rw [hf0]; show (addL (1, true) s.data.toList).1 = C; rw [hCL]
  have hin : f0.ind = ind := by rw [hf0]; rfl
  have hC1 : 1 ≤ C := by have := addL_pos s.data.toList (1, true) (Nat.le_refl 1); rw [hCL] at this; exact this
  have hCb : C ≤ 65538 := by
    have := addL_le s.data.toList (1, true); rw [hCL] at this
    have e : s.data.toList.length = s.size := by simp
    simp only at this; omega
  have hCi : (C : Int) ≤ 65538 := by omega
  have hCi1 : (1 : Int) ≤ (C : Int) := by omega
  have HLS := Lib.hid hls
  have HIN := Lib.hid hin
  have HCOL := Lib.hid hcl
  have TL := Lib.hid fun W => tail42 s W (by omega) C true hCL
  clear ht t1 t2 t3 hf0 hls hin hcl hCL hM
  go_enter Try.func12, Try.ntmps12
  go_wp2_with (first | (go_at_call 41; go_in) | (go_at_call 17; refine (new17 true ind w).mono ?_; rintro e w1 ⟨k, r, p, tw, rfl, hp, hbl⟩; have O1 := Lib.hid (One.mk hp hbl); clear hp hbl))
  go_wp2_with (go_at_call 18; refine (write18 w.heap.size w.heap.size k r p tw true _ _ _ s w1 O1.out.ps (by simp; omega) (by simp [readyF, wresetF, resetF, zeroF]; omega)).mono ?_; rintro e w2 ⟨rfl, v2, t1, t2⟩; have O2 := Lib.hid (O1.out.step t1 t2); clear t1 t2 O1; rw [← HF.out] at O2)
  go_wp2_with (go_at_call 19; refine (set19 w.heap.size w.heap.size k r p tw true _ _ _ 1 w2 O2.out.ps (by omega)).mono ?_; rintro e w3 ⟨rfl, v3, t1, t2⟩; have O3 := Lib.hid (O2.out.step t1 t2); clear t1 t2 O2)
  go_wp2_with (go_at_call 25; refine (pos25 0 lc w3).mono ?_; rintro e w4 ⟨rfl, hw4⟩; have O4 := Lib.hid (One.mk (O3.out.ps.grew (w' := w4.alloc (.cells #[.int .u32 0, .int .u32 lc] 43)) (fun i hi => (Below.heap_alloc w4 _ i (by rw [hw4]; simp; omega)).trans (by rw [hw4]; exact Below.heap_alloc _ _ i hi))) (by rw [hw4]; exact (O3.out.below.alloc O3.out.below.size _).alloc (by simp; exact Nat.le_succ_of_le O3.out.below.size) _)); clear hw4 O3)
  go_wp2_with (go_at_call 24; refine (call24 w.heap.size w.heap.size k r p tw true _ _ _ _ v3 0 lc (w4.alloc (.cells #[.int .u32 0, .int .u32 lc] 43)) O4.out.ps (fun W hW => pad54T1 _ _ _ _ _ _ _ _ _ _ _ 0 lc col _ hW (by rintro ⟨a, b⟩; exact hnz (HIN.out.symm.trans b)) (by show 1 ≤ f0.col; rw [HCOL.out]; exact hC1) (by show f0.col + 16400 ≤ _; rw [HCOL.out]; omega) rfl (by simp; omega) hlc hmod.symm rfl rfl)).mono ?_; rintro e w5 ⟨rfl, v5, t1, t2⟩; have O5 := Lib.hid (O4.out.step t1 t2); clear t1 t2 O4)
  go_wp2_with (go_at_call 21; refine (want21x w.heap.size w.heap.size k r p tw true _ _ _ w5 2 O5.out.ps (by first | (rw [step_ws]; done) | (rw [step_ws]; rfl) | rfl) (by omega)).mono ?_; rintro e w9 ⟨rfl, hw9⟩; rw [hw9]; clear hw9)
  go_wp2_with (go_at_call 22; refine (flush22t w.heap.size w.heap.size k r p tw true _ _ _ w5 t O5.out.ps (by simp; omega) (HT1.out _ (by rw [step32']; show col - (f0.col + 1) = _; rw [HCOL.out]))).mono ?_; rintro e w6 ⟨rfl, v6, t1, t2⟩; have O6 := Lib.hid (O5.out.step t1 t2); clear t1 t2 O5)
  go_wp2_with (go_at_call 42; refine (TL.out w6).mono ?_; rintro e w7 ⟨rfl, hw7⟩; rw [← hw7]; clear hw7)
  go_wp2_with (go_at_call 28; refine (blanks28 _ _ (by simp; omega) HB.out).mono ?_; rintro e w8 ⟨rfl, hw8⟩; rw [← hw8]; clear hw8)
  all_goals (go_ret; exact ⟨rfl, O6.out.below⟩)
end Go.Proofs.Ytonhphjejlidiaa
