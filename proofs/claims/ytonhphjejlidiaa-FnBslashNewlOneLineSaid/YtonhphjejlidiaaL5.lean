/-
  The walk of FnSpacePadWithoutKeepPaddingNeverPads. Conditions: those in each theorem.
-/
import Derived.Test.YtonhphjejlidiaaPd
namespace Go.Proofs.Ytonhphjejlidiaa
set_option linter.unusedVariables false
open Go.Shelf Go.RowKit Go.Lib

/-- the position's word -/
theorem or_pos (line col : Nat) (h1 : line ≤ 262143) (h2 : col ≤ 16383) : ∃ lc : Nat, bits .or .u32 ((line : Int) * 16384) (col : Int) = (lc : Int) ∧ lc ≤ 4294967295 ∧ lc % 16384 = col := by
  have h := u32_or_nat (line * 16384) col (by omega) (by omega)
  have e : ((line * 16384 : Nat) : Int) = (line : Int) * 16384 := by omega
  rw [e] at h
  have hb : line * 16384 ||| col < 4294967296 := Nat.or_lt_two_pow (n := 32) (by omega) (by omega)
  have h3 := Nat.or_mod_two_pow (a := line * 16384) (b := col) (n := 14)
  rw [show (2 : Nat) ^ 14 = 16384 from rfl, Nat.mul_mod_left, Nat.zero_or, Nat.mod_eq_of_lt (show col < 16384 by omega)] at h3
  exact ⟨line * 16384 ||| col, h, by omega, h3⟩

set_option maxRecDepth 20000 in
set_option maxHeartbeats 16000000 in
theorem law5' (ind : Nat) (s : ByteArray) (n line col : Nat) (w : World) (hind : ind ≤ 18446744073709551615) (hn : n ≤ 255) (hli : line ≤ 4294967295) (hco : col ≤ 4294967295) :
    Calls Try.prog 5 #[.int .u64 ind, .string s, .int .u8 n, .int .u32 line, .int .u32 col] w fun e w' => e = .returned (.bool true) ∧ Below w.heap.size w w' := by
  have hni : (n : Int) ≤ 255 := by omega
  have hlii : (line : Int) ≤ 4294967295 := by omega
  have hcoi : (col : Int) ≤ 4294967295 := by omega
  by_cases c0 : (1048576 : Int) < (s.size : Int)
  · go_enter Try.func5, Try.ntmps5
    go_wp2
    all_goals (go_ret; exact ⟨rfl, Below.refl _ _⟩)
  by_cases c1 : (65536 : Int) < (s.size : Int)
  · go_enter Try.func5, Try.ntmps5
    go_wp2
    all_goals (go_ret; exact ⟨rfl, Below.refl _ _⟩)
  by_cases c2 : (2 : Int) < (n : Int)
  · go_enter Try.func5, Try.ntmps5
    go_wp2
    all_goals (go_ret; exact ⟨rfl, Below.refl _ _⟩)
  by_cases c3 : (262143 : Int) < (line : Int)
  · go_enter Try.func5, Try.ntmps5
    go_wp2
    all_goals (go_ret; exact ⟨rfl, Below.refl _ _⟩)
  by_cases c4 : (16383 : Int) < (col : Int)
  · go_enter Try.func5, Try.ntmps5
    go_wp2
    all_goals (go_ret; exact ⟨rfl, Below.refl _ _⟩)
  have hss : s.size ≤ 65536 := by omega
  have hn2 : n ≤ 2 := by omega
  obtain ⟨lc, hor, hlc, hmod⟩ := or_pos line col (by omega) (by omega)
  by_cases hn1 : n = 1
  · subst hn1
    obtain ⟨t, ht⟩ : ∃ t : ByteArray, t.data.toList = [] ++ s.data.toList ++ [32] := ⟨⟨_⟩, rfl⟩
    have HT := Lib.hid ht
    have qs : (t.toList == (s ++ { data := #[32] }).toList) = true := by simp [ByteArray.toList_eq, ht]
    clear ht
    go_enter Try.func5, Try.ntmps5
    go_wp2_with (first | (go_at_call 23; go_in) | (go_at_call 17; refine (new17 false ind w).mono ?_; rintro e w1 ⟨k, r, p, tw, rfl, hp, hbl⟩; have O1 := Lib.hid (One.mk hp hbl); clear hp hbl))
    go_wp2_with (go_at_call 18; refine (write18 w.heap.size w.heap.size k r p tw false _ _ _ s w1 O1.out.ps (by simp; omega) (by simp [readyF, wresetF, resetF, zeroF]; omega)).mono ?_; rintro e w2 ⟨rfl, v2, t1, t2⟩; have O2 := Lib.hid (O1.out.step t1 t2); clear t1 t2 O1)
    go_wp2_with (go_at_call 19; refine (set19 w.heap.size w.heap.size k r p tw false _ _ _ 1 w2 O2.out.ps (by omega)).mono ?_; rintro e w3 ⟨rfl, v3, t1, t2⟩; have O3 := Lib.hid (O2.out.step t1 t2); clear t1 t2 O2)
    go_wp2_with (go_at_call 25; refine (pos25 0 lc w3).mono ?_; rintro e w4 ⟨rfl, hw4⟩; have O4 := Lib.hid (One.mk (O3.out.ps.grew (w' := w4) (fun i hi => by rw [hw4]; exact Below.heap_alloc _ _ i hi)) (by rw [hw4]; exact O3.out.below.alloc O3.out.below.size _)); clear hw4 O3)
    go_wp2_with (go_at_call 24; refine (call24 w.heap.size w.heap.size k r p tw false _ _ _ _ v3 0 lc w4 O4.out.ps (fun W hW => pad54F1 _ _ _ _ _ _ _ _ _ _ _ _ hW rfl rfl rfl (by simp; omega) hlc)).mono ?_; rintro e w5 ⟨rfl, v5, t1, t2⟩; have O5 := Lib.hid (O4.out.step t1 t2); clear t1 t2 O4)
    go_wp2_with (go_at_call 21; refine (want21x w.heap.size w.heap.size k r p tw false _ _ _ w5 2 O5.out.ps rfl (Nat.le_refl 2)).mono ?_; rintro e w9 ⟨rfl, hw9⟩; rw [hw9]; clear hw9)
    go_wp2_with (go_at_call 22; refine (flush22t w.heap.size w.heap.size k r p tw false _ _ _ w5 t O5.out.ps (by simp; omega) HT.out).mono ?_; rintro e w6 ⟨rfl, v6, t1, t2⟩; have O6 := Lib.hid (O5.out.step t1 t2); clear t1 t2 O5)
    go_ret
    exact ⟨rfl, O6.out.below⟩
  · obtain ⟨t, ht⟩ : ∃ t : ByteArray, t.data.toList = [] ++ s.data.toList := ⟨⟨_⟩, rfl⟩
    have HT := Lib.hid ht
    have qs : (t.toList == s.toList) = true := by simp [ByteArray.toList_eq, ht]
    have hni1 : ¬ (n : Int) = 1 := by omega
    clear ht
    go_enter Try.func5, Try.ntmps5
    go_wp2_with (first | (go_at_call 23; go_in) | (go_at_call 17; refine (new17 false ind w).mono ?_; rintro e w1 ⟨k, r, p, tw, rfl, hp, hbl⟩; have O1 := Lib.hid (One.mk hp hbl); clear hp hbl))
    go_wp2_with (go_at_call 18; refine (write18 w.heap.size w.heap.size k r p tw false _ _ _ s w1 O1.out.ps (by simp; omega) (by simp [readyF, wresetF, resetF, zeroF]; omega)).mono ?_; rintro e w2 ⟨rfl, v2, t1, t2⟩; have O2 := Lib.hid (O1.out.step t1 t2); clear t1 t2 O1)
    go_wp2_with (go_at_call 19; refine (set19 w.heap.size w.heap.size k r p tw false _ _ _ n w2 O2.out.ps hn2).mono ?_; rintro e w3 ⟨rfl, v3, t1, t2⟩; have O3 := Lib.hid (O2.out.step t1 t2); clear t1 t2 O2)
    go_wp2_with (go_at_call 25; refine (pos25 0 lc w3).mono ?_; rintro e w4 ⟨rfl, hw4⟩; have O4 := Lib.hid (One.mk (O3.out.ps.grew (w' := w4) (fun i hi => by rw [hw4]; exact Below.heap_alloc _ _ i hi)) (by rw [hw4]; exact O3.out.below.alloc O3.out.below.size _)); clear hw4 O3)
    go_wp2_with (go_at_call 24; refine (call24 w.heap.size w.heap.size k r p tw false _ _ _ _ v3 0 lc w4 O4.out.ps (fun W hW => pad54F0 _ _ _ _ _ _ _ _ _ _ _ _ hW rfl rfl hn1 hn2 (by simp; omega) hlc)).mono ?_; rintro e w5 ⟨rfl, v5, t1, t2⟩; have O5 := Lib.hid (O4.out.step t1 t2); clear t1 t2 O4)
    go_wp2_with (go_at_call 21; refine (want21x w.heap.size w.heap.size k r p tw false _ _ _ w5 n O5.out.ps rfl hn2).mono ?_; rintro e w9 ⟨rfl, hw9⟩; rw [hw9]; clear hw9)
    go_wp2_with (go_at_call 22; refine (flush22t w.heap.size w.heap.size k r p tw false _ _ _ w5 t O5.out.ps (by simp; omega) HT.out).mono ?_; rintro e w6 ⟨rfl, v6, t1, t2⟩; have O6 := Lib.hid (O5.out.step t1 t2); clear t1 t2 O5)
    go_ret
    exact ⟨rfl, O6.out.below⟩
theorem law5 (x0 : Int) (s : ByteArray) (x2 x3 x4 : Int) (h0 : (Lit.int .u64 x0).wf = true) (h2 : (Lit.int .u8 x2).wf = true) (h3 : (Lit.int .u32 x3).wf = true) (h4 : (Lit.int .u32 x4).wf = true) (w : World) :
    Calls Try.prog 5 #[.int .u64 x0, .string s, .int .u8 x2, .int .u32 x3, .int .u32 x4] w fun e w' => e = .returned (.bool true) ∧ Below w.heap.size w w' := by
  obtain ⟨a, rfl, ha⟩ := wf_u64 h0
  obtain ⟨b, rfl, hb⟩ := wf_u8 h2
  obtain ⟨c, rfl, hc⟩ := wf_u32 h3
  obtain ⟨d, rfl, hd⟩ := wf_u32 h4
  exact law5' a s b c d w ha hb hc hd
end Go.Proofs.Ytonhphjejlidiaa
