/-
  The walk of FnSpaceTwiceAgreesWithSpacesTwo. Conditions: those in each theorem.
-/
import Derived.Test.YtonhphjejlidiaaTw
namespace Go.Proofs.Ytonhphjejlidiaa
set_option linter.unusedVariables false
open Go.Shelf Go.RowKit Go.Lib

theorem step32 (f : PF) : stepF true f 32 = { f with col := f.col + 1 } := by unfold stepF addF; simp only [if_true, addB_space]

set_option maxRecDepth 20000 in
set_option maxHeartbeats 16000000 in
theorem law7' (s : ByteArray) (n : Nat) (w : World) (hn : n ≤ 255) :
    Calls Try.prog 7 #[.string s, .int .u8 n] w fun e w' => e = .returned (.bool true) ∧ Below w.heap.size w w' := by
  have hni : (n : Int) ≤ 255 := by omega
  by_cases c0 : (1048576 : Int) < (s.size : Int)
  · go_enter Try.func7, Try.ntmps7
    go_wp2
    all_goals (go_ret; exact ⟨rfl, Below.refl _ _⟩)
  by_cases c1 : (65536 : Int) < (s.size : Int)
  · go_enter Try.func7, Try.ntmps7
    go_wp2
    all_goals (go_ret; exact ⟨rfl, Below.refl _ _⟩)
  by_cases c2 : (2 : Int) < (n : Int)
  · go_enter Try.func7, Try.ntmps7
    go_wp2
    all_goals (go_ret; exact ⟨rfl, Below.refl _ _⟩)
  have hss : s.size ≤ 65536 := by omega
  have hn2 : n ≤ 2 := by omega
  obtain ⟨f0, hf0⟩ : ∃ f0, f0 = stepL true (readyF true 4) s.data.toList := ⟨_, rfl⟩
  have hcol : f0.col ≤ s.size + 2 := by rw [hf0]; exact ready_col true 4 s.data.toList s.size (by simp)
  obtain ⟨C, hC⟩ : ∃ C, C = f0.col := ⟨_, rfl⟩
  obtain ⟨L, hL⟩ : ∃ L, L = f0.ls := ⟨_, rfl⟩
  obtain ⟨t, ht⟩ : ∃ t : ByteArray, t.data.toList = [] ++ s.data.toList ++ [32] ++ [32] := ⟨⟨_⟩, rfl⟩
  have ht2 : t.data.toList = [] ++ s.data.toList ++ List.replicate 2 32 := by rw [ht, List.append_assoc]; rfl
  have HF := Lib.hid hf0
  have HC := Lib.hid hC
  have HL := Lib.hid hL
  have HT := Lib.hid ht
  have HT2 := Lib.hid ht2
  have hcb : (C : Int) ≤ 65538 := by omega
  have qs : (t.toList == t.toList) = true := by simp
  clear hf0 hC hL ht ht2
  go_enter Try.func7, Try.ntmps7
  go_wp2_with (first | (go_at_call 29; go_in) | (go_at_call 17; refine (new17 true 4 w).mono ?_; rintro e w1 ⟨k, r, p, tw, rfl, hp, hbl⟩; have O1 := Lib.hid (One.mk hp hbl); clear hp hbl))
  go_wp2_with (go_at_call 18; refine (write18 w.heap.size w.heap.size k r p tw true _ _ _ s w1 O1.out.ps (by simp; omega) (by simp [readyF, wresetF, resetF, zeroF]; omega)).mono ?_; rintro e w2 ⟨rfl, v2, t1, t2⟩; have O2 := Lib.hid (O1.out.step t1 t2); clear t1 t2 O1; rw [← HF.out] at O2)
  go_wp2_with (go_at_call 19; refine (set19 w.heap.size w.heap.size k r p tw true _ _ _ n w2 O2.out.ps hn2).mono ?_; rintro e w3 ⟨rfl, v3, t1, t2⟩; have O3 := Lib.hid (O2.out.step t1 t2); clear t1 t2 O2)
  go_wp2_with (go_at_call 30; refine (ls30x w.heap.size w.heap.size k r p tw true _ _ _ w3 L O3.out.ps HL.out.symm).mono ?_; rintro e w9 ⟨rfl, hw9⟩; rw [hw9]; clear hw9)
  go_wp2_with (go_at_call 20; refine (call20 w.heap.size w.heap.size k r p tw true _ _ _ w3 O3.out.ps (by simp; omega) (by simp only []; omega)).mono ?_; rintro e w4 ⟨rfl, v4, t1, t2⟩; have O4 := Lib.hid (O3.out.step t1 t2); clear t1 t2 O3)
  go_wp2_with (go_at_call 20; refine (call20 w.heap.size w.heap.size k r p tw true _ _ _ w4 O4.out.ps (by simp; omega) (by rw [step32]; simp only []; omega)).mono ?_; rintro e w5 ⟨rfl, v5, t1, t2⟩; have O5 := Lib.hid (O4.out.step t1 t2); clear t1 t2 O4)
  go_wp2_with (go_at_call 17; refine (new17 true 4 w5).mono ?_; rintro e w6 ⟨k2, r2, p2, tw2, rfl, hp, hbl⟩; have T6 := Lib.hid (Two.mk' O5.out hp hbl); clear hp hbl O5)
  go_wp2_with (go_at_call 18; refine (write18 w5.heap.size w5.heap.size k2 r2 p2 tw2 true _ _ _ s w6 T6.out.two (by simp; omega) (by simp [readyF, wresetF, resetF, zeroF]; omega)).mono ?_; rintro e w7 ⟨rfl, v7, t1, t2⟩; have T7 := Lib.hid (T6.out.step t1 t2); clear t1 t2 T6; rw [← HF.out] at T7)
  go_wp2_with (go_at_call 19; refine (set19 w5.heap.size w5.heap.size k2 r2 p2 tw2 true _ _ _ n w7 T7.out.two hn2).mono ?_; rintro e w8 ⟨rfl, v8, t1, t2⟩; have T8 := Lib.hid (T7.out.step t1 t2); clear t1 t2 T7)
  go_wp2_with (go_at_call 27; refine (call27 w5.heap.size w5.heap.size k2 r2 p2 tw2 true _ _ _ 2 w8 T8.out.two (by simp; omega) (by simp only []; omega)).mono ?_; rintro e w10 ⟨rfl, v10, t1, t2⟩; have T10 := Lib.hid (T8.out.step t1 t2); clear t1 t2 T8)
  go_wp2_with (go_at_call 31; refine (col31x w.heap.size w.heap.size k r p tw true _ _ _ w10 (C + 2) T10.out.one (by rw [step32, step32, HC.out])).mono ?_; rintro e w9 ⟨rfl, hw9⟩; rw [hw9]; clear hw9)
  go_wp2_with (go_at_call 31; refine (col31x w5.heap.size w5.heap.size k2 r2 p2 tw2 true _ _ _ w10 (C + 2) T10.out.two (by rw [stepL_spaces, HC.out]; rfl)).mono ?_; rintro e w9 ⟨rfl, hw9⟩; rw [hw9]; clear hw9)
  go_wp2_with (go_at_call 30; refine (ls30x w.heap.size w.heap.size k r p tw true _ _ _ w10 L T10.out.one (by rw [step32, step32, HL.out])).mono ?_; rintro e w9 ⟨rfl, hw9⟩; rw [hw9]; clear hw9)
  go_wp2_with (go_at_call 22; refine (flush22t w.heap.size w.heap.size k r p tw true _ _ _ w10 t T10.out.one (by simp; omega) HT.out).mono ?_; rintro e w11 ⟨rfl, v11, t1, t2⟩; have S11 := Lib.hid (T10.out.first (out3 := []) (f3 := zeroF) t2); have GE := Lib.hid T10.out.ge; clear t1 t2 T10)
  go_wp2_with (go_at_call 22; refine (flush22t w5.heap.size w5.heap.size k2 r2 p2 tw2 true _ _ _ w11 t S11.out.1 (by simp; omega) HT2.out).mono ?_; rintro e w12 ⟨rfl, v12, t1, t2⟩; have S12 := Lib.hid (Two.last (out3 := []) (f3 := zeroF) S11.out.1 S11.out.2 GE.out t2); clear t1 t2 S11)
  go_ret
  exact ⟨rfl, S12.out⟩
theorem law7 (s : ByteArray) (x1 : Int) (h1 : (Lit.int .u8 x1).wf = true) (w : World) :
    Calls Try.prog 7 #[.string s, .int .u8 x1] w fun e w' => e = .returned (.bool true) ∧ Below w.heap.size w w' := by
  obtain ⟨n, rfl, hn⟩ := wf_u8 h1
  exact law7' s n w hn
end Go.Proofs.Ytonhphjejlidiaa
