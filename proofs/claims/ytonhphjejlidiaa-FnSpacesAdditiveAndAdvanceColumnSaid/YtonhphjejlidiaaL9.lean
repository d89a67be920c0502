/-
  The walk of FnSpacesAdditiveAndAdvanceColumn. Conditions: those in each theorem.
-/
import Derived.Test.YtonhphjejlidiaaTw
namespace Go.Proofs.Ytonhphjejlidiaa
set_option linter.unusedVariables false
open Go.Shelf Go.RowKit Go.Lib

set_option maxRecDepth 20000 in
set_option maxHeartbeats 16000000 in
theorem law9' (s : ByteArray) (a c : Nat) (w : World) (ha : a ≤ 18446744073709551615) (hc : c ≤ 18446744073709551615) :
    Calls Try.prog 9 #[.string s, .int .u64 a, .int .u64 c] w fun e w' => e = .returned (.bool true) ∧ Below w.heap.size w w' := by
  have hai : (a : Int) ≤ 18446744073709551615 := by omega
  have hci : (c : Int) ≤ 18446744073709551615 := by omega
  by_cases c28 : (1048576 : Int) < (s.size : Int)
  · go_enter Try.func9, Try.ntmps9
    go_wp2
    all_goals (go_ret; exact ⟨rfl, Below.refl _ _⟩)
  by_cases c43 : (65536 : Int) < (s.size : Int)
  · go_enter Try.func9, Try.ntmps9
    go_wp2
    all_goals (go_ret; exact ⟨rfl, Below.refl _ _⟩)
  by_cases c23 : (65536 : Int) < (a : Int)
  · go_enter Try.func9, Try.ntmps9
    go_wp2
    all_goals (go_ret; exact ⟨rfl, Below.refl _ _⟩)
  by_cases c15 : (65536 : Int) < (c : Int)
  · go_enter Try.func9, Try.ntmps9
    go_wp2
    all_goals (go_ret; exact ⟨rfl, Below.refl _ _⟩)
  have hss : s.size ≤ 65536 := by omega
  have haa : a ≤ 65536 := by omega
  have hcc : c ≤ 65536 := by omega
  obtain ⟨f0, hf0⟩ : ∃ f0, f0 = stepL true (readyF true 2) s.data.toList := ⟨_, rfl⟩
  have hcol : f0.col ≤ s.size + 2 := by rw [hf0]; exact ready_col true 2 s.data.toList s.size (by simp)
  have h1 : ∀ n, (stepL true f0 (List.replicate n 32)).col = f0.col + n := fun n => by rw [stepL_spaces]; rfl
  have h2 : ∀ n, (stepL true f0 (List.replicate n 32)).ls = f0.ls := fun n => by rw [stepL_spaces]; rfl
  have h3 : ∀ n m, (stepL true (stepL true f0 (List.replicate n 32)) (List.replicate m 32)).col = f0.col + n + m := fun n m => by rw [stepL_spaces, stepL_spaces]; rfl
  have h4 : ∀ n m, (stepL true (stepL true f0 (List.replicate n 32)) (List.replicate m 32)).ls = f0.ls := fun n m => by rw [stepL_spaces, stepL_spaces]; rfl
  obtain ⟨C, hC⟩ : ∃ C, C = f0.col := ⟨_, rfl⟩
  obtain ⟨L, hL⟩ : ∃ L, L = f0.ls := ⟨_, rfl⟩
  obtain ⟨t, ht⟩ : ∃ t : ByteArray, t.data.toList = [] ++ s.data.toList ++ List.replicate a 32 ++ List.replicate c 32 := ⟨⟨_⟩, rfl⟩
  have ht2 : t.data.toList = [] ++ s.data.toList ++ List.replicate (a + c) 32 := by rw [ht, List.append_assoc, List.replicate_append_replicate]
  have HF := Lib.hid hf0
  have H1 := Lib.hid h1
  have H2 := Lib.hid h2
  have H3 := Lib.hid h3
  have H4 := Lib.hid h4
  have HC := Lib.hid hC
  have HL := Lib.hid hL
  have HT := Lib.hid ht
  have HT2 := Lib.hid ht2
  have hcb : (C : Int) ≤ 65538 := by omega
  have qs : (t.toList == t.toList) = true := by simp
  clear hf0 h1 h2 h3 h4 hC hL ht ht2
  go_enter Try.func9, Try.ntmps9
  go_wp2_with (first | (go_at_call 34; go_in) | (go_at_call 17; refine (new17 true 2 w).mono ?_; rintro e w1 ⟨k, r, p, tw, rfl, hp, hbl⟩; have O1 := Lib.hid (One.mk hp hbl); clear hp hbl))
  go_wp2_with (go_at_call 18; refine (write18 w.heap.size w.heap.size k r p tw true _ _ _ s w1 O1.out.ps (by simp; omega) (by simp [readyF, wresetF, resetF, zeroF]; omega)).mono ?_; rintro e w2 ⟨rfl, v2, t1, t2⟩; have O2 := Lib.hid (O1.out.step t1 t2); clear t1 t2 O1; rw [← HF.out] at O2)
  go_wp2_with (go_at_call 31; refine (col31x w.heap.size w.heap.size k r p tw true _ _ _ w2 C O2.out.ps HC.out.symm).mono ?_; rintro e w9 ⟨rfl, hw9⟩; rw [hw9]; clear hw9)
  go_wp2_with (go_at_call 30; refine (ls30x w.heap.size w.heap.size k r p tw true _ _ _ w2 L O2.out.ps HL.out.symm).mono ?_; rintro e w9 ⟨rfl, hw9⟩; rw [hw9]; clear hw9)
  go_wp2_with (go_at_call 27; refine (call27 w.heap.size w.heap.size k r p tw true _ _ _ a w2 O2.out.ps (by simp; omega) (by omega)).mono ?_; rintro e w3 ⟨rfl, v3, t1, t2⟩; have O3 := Lib.hid (O2.out.step t1 t2); clear t1 t2 O2)
  go_wp2_with (go_at_call 31; refine (col31x w.heap.size w.heap.size k r p tw true _ _ _ w3 (C + a) O3.out.ps (by rw [H1.out, HC.out])).mono ?_; rintro e w9 ⟨rfl, hw9⟩; rw [hw9]; clear hw9)
  go_wp2_with (go_at_call 30; refine (ls30x w.heap.size w.heap.size k r p tw true _ _ _ w3 L O3.out.ps (by rw [H2.out, HL.out])).mono ?_; rintro e w9 ⟨rfl, hw9⟩; rw [hw9]; clear hw9)
  go_wp2_with (go_at_call 27; refine (call27 w.heap.size w.heap.size k r p tw true _ _ _ c w3 O3.out.ps (by simp; omega) (by rw [H1.out]; omega)).mono ?_; rintro e w4 ⟨rfl, v4, t1, t2⟩; have O4 := Lib.hid (O3.out.step t1 t2); clear t1 t2 O3)
  go_wp2_with (go_at_call 31; refine (col31x w.heap.size w.heap.size k r p tw true _ _ _ w4 (C + a + c) O4.out.ps (by rw [H3.out, HC.out])).mono ?_; rintro e w9 ⟨rfl, hw9⟩; rw [hw9]; clear hw9)
  go_wp2_with (go_at_call 30; refine (ls30x w.heap.size w.heap.size k r p tw true _ _ _ w4 L O4.out.ps (by rw [H4.out, HL.out])).mono ?_; rintro e w9 ⟨rfl, hw9⟩; rw [hw9]; clear hw9)
  go_wp2_with (go_at_call 22; refine (flush22t w.heap.size w.heap.size k r p tw true _ _ _ w4 t O4.out.ps (by simp; omega) HT.out).mono ?_; rintro e w5 ⟨rfl, v5, t1, t2⟩; have O5 := Lib.hid (O4.out.step t1 t2); clear t1 t2 O4)
  go_wp2_with (go_at_call 17; refine (new17 true 2 w5).mono ?_; rintro e w6 ⟨k2, r2, p2, tw2, rfl, hp, hbl⟩; have T6 := Lib.hid (Two.mk' O5.out hp hbl); clear hp hbl O5)
  go_wp2_with (go_at_call 18; refine (write18 w5.heap.size w5.heap.size k2 r2 p2 tw2 true _ _ _ s w6 T6.out.two (by simp; omega) (by simp [readyF, wresetF, resetF, zeroF]; omega)).mono ?_; rintro e w7 ⟨rfl, v7, t1, t2⟩; have T7 := Lib.hid (T6.out.step t1 t2); clear t1 t2 T6; rw [← HF.out] at T7)
  go_wp2_with (go_at_call 27; refine (call27 w5.heap.size w5.heap.size k2 r2 p2 tw2 true _ _ _ (a + c) w7 T7.out.two (by simp; omega) (by omega)).mono ?_; rintro e w8 ⟨rfl, v8, t1, t2⟩; have T8 := Lib.hid (T7.out.step t1 t2); clear t1 t2 T7)
  go_wp2_with (go_at_call 22; refine (flush22t w5.heap.size w5.heap.size k2 r2 p2 tw2 true _ _ _ w8 t T8.out.two (by simp; omega) HT2.out).mono ?_; rintro e w10 ⟨rfl, v10, t1, t2⟩; have T10 := Lib.hid (T8.out.step t1 t2); clear t1 t2 T8)
  go_wp2_with (go_at_call 31; refine (col31x w5.heap.size w5.heap.size k2 r2 p2 tw2 true _ _ _ w10 (C + a + c) T10.out.two (by rw [H1.out, HC.out, Nat.add_assoc])).mono ?_; rintro e w9 ⟨rfl, hw9⟩; rw [hw9]; clear hw9)
  go_wp2_with (go_at_call 31; refine (col31x w.heap.size w.heap.size k r p tw true _ _ _ w10 (C + a + c) T10.out.one (by rw [H3.out, HC.out])).mono ?_; rintro e w9 ⟨rfl, hw9⟩; rw [hw9]; clear hw9)
  go_ret
  exact ⟨rfl, T10.out.below⟩
theorem law9 (s : ByteArray) (x1 x2 : Int) (h1 : (Lit.int .u64 x1).wf = true) (h2 : (Lit.int .u64 x2).wf = true) (w : World) :
    Calls Try.prog 9 #[.string s, .int .u64 x1, .int .u64 x2] w fun e w' => e = .returned (.bool true) ∧ Below w.heap.size w w' := by
  obtain ⟨n, rfl, hn⟩ := wf_u64 h1
  obtain ⟨m, rfl, hm⟩ := wf_u64 h2
  exact law9' s n m w hn hm
end Go.Proofs.Ytonhphjejlidiaa
