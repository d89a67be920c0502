/-
  The walk of FnSpacesAppendsExactlyNBlanks. Conditions: those in each theorem.
-/
import Derived.Test.YtonhphjejlidiaaLa
namespace Go.Proofs.Ytonhphjejlidiaa
set_option linter.unusedVariables false
open Go.Shelf Go.RowKit Go.Lib

theorem app_size (s : ByteArray) (n : Nat) (t : ByteArray) (ht : t.data.toList = [] ++ s.data.toList ++ List.replicate n 32) : t.size = s.size + n ∧ (t.extract 0 s.size).toList = s.toList ∧ ∀ j (hj : j < (t.extract s.size t.size).size), (t.extract s.size t.size)[j] = 32 := by
  have hl := congrArg List.length ht
  have e1 : t.data.toList.length = t.size := by simp
  have e2 : s.data.toList.length = s.size := by simp
  simp only [List.length_append, List.length_nil, List.length_replicate] at hl
  refine ⟨by omega, ?_, fun j hj => ?_⟩
  · rw [ByteArray.toList_eq, ByteArray.toList_eq, ByteArray.data_extract, Array.toList_extract, List.extract_eq_take_drop, ht]
    simp [e2]
  · have hj2 : j < n := by simp at hj; omega
    have h3 : (t.extract s.size t.size).data.toList[j]? = some 32 := by
      rw [ByteArray.data_extract, Array.toList_extract, List.extract_eq_take_drop, ht, List.nil_append, List.drop_left' e2, List.getElem?_take_of_lt (by omega), List.getElem?_replicate_of_lt hj2]
    have h4 := Lib.data_getElem? (t.extract s.size t.size) j hj
    rw [h3] at h4
    exact (Option.some.inj h4).symm

set_option maxRecDepth 20000 in
set_option maxHeartbeats 8000000 in
theorem law6' (ind : Nat) (kp : Bool) (s : ByteArray) (n : Nat) (w : World) (hind : ind ≤ 18446744073709551615) (hn : n ≤ 18446744073709551615) :
    Calls Try.prog 6 #[.int .u64 ind, .bool kp, .string s, .int .u64 n] w fun e w' => e = .returned (.bool true) ∧ Below w.heap.size w w' := by
  have hni : (n : Int) ≤ 18446744073709551615 := by omega
  by_cases c1 : (1048576 : Int) < (s.size : Int)
  · go_enter Try.func6, Try.ntmps6
    go_wp2
    go_ret
    exact ⟨rfl, Below.refl _ _⟩
  by_cases c2 : (65536 : Int) < (s.size : Int)
  · go_enter Try.func6, Try.ntmps6
    go_wp2
    go_ret
    exact ⟨rfl, Below.refl _ _⟩
  by_cases c3 : (65536 : Int) < (n : Int)
  · go_enter Try.func6, Try.ntmps6
    go_wp2
    go_ret
    exact ⟨rfl, Below.refl _ _⟩
  have hnn : n ≤ 65536 := by omega
  have hss : s.size ≤ 65536 := by omega
  obtain ⟨t, ht⟩ : ∃ t : ByteArray, t.data.toList = [] ++ s.data.toList ++ List.replicate n 32 := ⟨⟨_⟩, rfl⟩
  obtain ⟨t1, t2, t3⟩ := app_size s n t ht
  have HT := Lib.hid ht
  have HB := Lib.hid t3
  have ti : (t.size : Int) = (s.size : Int) + (n : Int) := by omega
  have qs : ((t.extract 0 s.size).toList == s.toList) = true := by simp [t2]
  have tle : t.size ≤ 1073741824 := by omega
  clear ht t1 t2 t3
  go_enter Try.func6, Try.ntmps6
  go_wp2_with (first | (go_at_call 26; go_in) | (go_at_call 17; refine (new17 kp ind w).mono ?_; rintro e w1 ⟨k, r, p, tw, rfl, hp, hbl⟩; have O1 := Lib.hid (One.mk hp hbl); clear hp hbl) | (go_at_call 18; refine (write18 w.heap.size w.heap.size k r p tw kp _ _ _ s w1 O1.out.ps (by simp; omega) (by cases kp <;> simp [readyF, wresetF, resetF, zeroF] <;> omega)).mono ?_; rintro e w2 ⟨rfl, v2, t1, t2⟩; have O2 := Lib.hid (O1.out.step t1 t2); clear t1 t2 O1; have WX := Lib.hid (want21x w.heap.size w.heap.size k r p tw kp _ _ _ w2 2 O2.out.ps (ready_ws kp ind _) (by omega))) | (go_at_call 21; refine WX.out.mono ?_; rintro e w5 ⟨rfl, hw5⟩; rw [hw5]; clear hw5) | (go_at_call 27; refine (call27 w.heap.size w.heap.size k r p tw kp _ _ _ n w2 O2.out.ps (by simp; omega) (by have := ready_col kp ind s.data.toList s.size (by simp); omega)).mono ?_; rintro e w3 ⟨rfl, v3, t1, t2⟩; have O3 := Lib.hid (O2.out.step t1 t2); clear t1 t2 O2 WX; have WX := Lib.hid (want21x w.heap.size w.heap.size k r p tw kp _ _ _ w3 2 O3.out.ps (by rw [step_ws]; exact ready_ws kp ind _) (by omega))) | (go_at_call 22; refine (flush22t w.heap.size w.heap.size k r p tw kp _ _ _ w3 t O3.out.ps (by simp; omega) HT.out).mono ?_; rintro e w6 ⟨rfl, v6, t1, t2⟩; have O6 := Lib.hid (O3.out.step t1 t2); clear t1 t2 O3) | (go_at_call 28; refine (blanks28 _ _ (by simp; omega) HB.out).mono ?_; rintro e w7 ⟨rfl, hw7⟩; rw [← hw7]; clear hw7))
  go_ret
  exact ⟨rfl, O6.out.below⟩
theorem law6 (x0 : Int) (kp : Bool) (s : ByteArray) (x3 : Int) (h0 : (Lit.int .u64 x0).wf = true) (h3 : (Lit.int .u64 x3).wf = true) (w : World) :
    Calls Try.prog 6 #[.int .u64 x0, .bool kp, .string s, .int .u64 x3] w fun e w' => e = .returned (.bool true) ∧ Below w.heap.size w w' := by
  obtain ⟨n, rfl, hn⟩ := wf_u64 h0
  obtain ⟨m, rfl, hm⟩ := wf_u64 h3
  exact law6' n kp s m w hn hm
end Go.Proofs.Ytonhphjejlidiaa
