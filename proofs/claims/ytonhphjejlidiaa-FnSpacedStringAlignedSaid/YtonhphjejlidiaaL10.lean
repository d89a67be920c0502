/-
  The walk of FnSpacedStringAligned. Conditions: those in each theorem.
-/
import Derived.Test.YtonhphjejlidiaaN49
import Derived.Test.YtonhphjejlidiaaN50
namespace Go.Proofs.Ytonhphjejlidiaa
set_option linter.unusedVariables false
open Go.Shelf Go.RowKit Go.Lib

theorem zz15d (kp : Bool) (ind ws : Nat) (t s : ByteArray) (line col : Nat) (w : World) (L : List UInt8) (F : PF) (hL : L = [] ++ t.data.toList ++ List.replicate (padN kp (cfgF false false kp ind 0 0 ws t) col) 32 ++ s.data.toList) (hF : F = { stepL kp (padF kp (cfgF false false kp ind 0 0 ws t) col) s.data.toList with ws := 1 }) (hts : t.size ≤ 65536) (hss : s.size ≤ 65536) (hws : ws ≤ 2) (h1 : line ≤ 262143) (h2 : col ≤ 16383) :
    Calls Try.prog 15 #[.agg #[.bool false, .bool false, .bool kp, .int .u64 ind, .int .u64 0, .int .u64 0, .int .u8 ws, .bool false, .bool false, .bool false, .string t], .string s, .int .u64 line, .int .u64 col] w (ZSt w L F) := by
  subst hL hF
  exact zz15 kp false ind 0 0 ws t s line col w hts hss hws (by omega) (by omega) h1 h2

/-- the text behind a spacedString: prefix, K spaces, s -/
theorem out_facts (t s o : ByteArray) (K : Nat) (ho : o.data.toList = [] ++ t.data.toList ++ List.replicate K 32 ++ s.data.toList) : o.size = t.size + K + s.size ∧ ((o.extract 0 t.size).toList == t.toList) = true ∧ ((o.extract (t.size + K) o.size).toList == s.toList) = true ∧ (o.extract t.size (t.size + K)).size = K ∧ ∀ j (hj : j < (o.extract t.size (t.size + K)).size), (o.extract t.size (t.size + K))[j] = 32 := by
  have hl := congrArg List.length ho
  have e0 : o.data.toList.length = o.size := by simp
  have e1 : t.data.toList.length = t.size := by simp
  have e2 : s.data.toList.length = s.size := by simp
  simp only [List.length_append, List.length_nil, List.length_replicate] at hl
  have hsz : (o.extract t.size (t.size + K)).size = K := by simp; omega
  have hm : (o.extract t.size (t.size + K)).data.toList = List.replicate K 32 := by
    rw [ByteArray.data_extract, Array.toList_extract, List.extract_eq_take_drop, ho, List.nil_append, List.append_assoc, List.drop_left' e1, List.take_left' (by simp)]
  refine ⟨by omega, ?_, ?_, hsz, fun j hj => ?_⟩
  · rw [ByteArray.toList_eq, ByteArray.toList_eq, ByteArray.data_extract, Array.toList_extract, List.extract_eq_take_drop, ho]
    simp [e1]
  · rw [ByteArray.toList_eq, ByteArray.toList_eq, ByteArray.data_extract, Array.toList_extract, List.extract_eq_take_drop, ho, List.nil_append, List.drop_left' (by simp [e1])]
    rw [List.take_of_length_le (by omega)]
    simp
  · have h4 := Lib.data_getElem? (o.extract t.size (t.size + K)) j hj
    rw [hm, List.getElem?_replicate_of_lt (by omega)] at h4
    exact (Option.some.inj h4).symm

theorem padN_false (f : PF) (c : Nat) : padN false f c ≤ 1 := by
  unfold padN
  have h2 := padK_le f
  have : padM false f c = 0 := rfl
  split <;> omega
theorem padN_true (f : PF) (c : Nat) (hz : ¬ (f.ls = true ∧ f.ind = 0)) : c ≤ f.col + padN true f c := by
  unfold padN
  rw [if_neg hz]
  have h1 : (pad1 true f).col = f.col + padK f := by
    unfold pad1 padK
    split
    · show (stepF true f 32).col = _
      rw [step32']
    · rfl
  have h2 : padM true f c = c - (pad1 true f).col := rfl
  rw [h2, h1]
  omega

set_option maxRecDepth 20000 in
set_option maxHeartbeats 8000000 in
theorem law10' (kp : Bool) (ind ws : Nat) (t s : ByteArray) (line col : Nat) (w : World) (hind : ind ≤ 18446744073709551615) (hws : ws ≤ 255) (hli : line ≤ 18446744073709551615) (hco : col ≤ 18446744073709551615) :
    Calls Try.prog 10 #[.bool kp, .int .u64 ind, .int .u8 ws, .string t, .string s, .int .u64 line, .int .u64 col] w fun e w' => e = .returned (.bool true) ∧ Below w.heap.size w w' := by
  have hwi : (ws : Int) ≤ 255 := by omega
  have hlii : (line : Int) ≤ 18446744073709551615 := by omega
  have hcoi : (col : Int) ≤ 18446744073709551615 := by omega
  have hii : (ind : Int) ≤ 18446744073709551615 := by omega
  by_cases c0 : (1048576 : Int) < (t.size : Int)
  · go_enter Try.func10, Try.ntmps10
    go_wp2_with (go_at_call 35; go_in)
    all_goals (go_ret; exact ⟨rfl, Below.refl _ _⟩)
  by_cases c1 : (1048576 : Int) < (s.size : Int)
  · go_enter Try.func10, Try.ntmps10
    go_wp2_with (go_at_call 35; go_in)
    all_goals (go_ret; exact ⟨rfl, Below.refl _ _⟩)
  by_cases c2 : (1048576 : Int) < (t.size : Int) + (s.size : Int)
  · go_enter Try.func10, Try.ntmps10
    go_wp2_with (go_at_call 35; go_in)
    all_goals (go_ret; exact ⟨rfl, Below.refl _ _⟩)
  by_cases c3 : (65536 : Int) < (t.size : Int)
  · go_enter Try.func10, Try.ntmps10
    go_wp2_with (go_at_call 35; go_in)
    all_goals (go_ret; exact ⟨rfl, Below.refl _ _⟩)
  by_cases c4 : (65536 : Int) < (s.size : Int)
  · go_enter Try.func10, Try.ntmps10
    go_wp2_with (go_at_call 35; go_in)
    all_goals (go_ret; exact ⟨rfl, Below.refl _ _⟩)
  by_cases c5 : (2 : Int) < (ws : Int)
  · go_enter Try.func10, Try.ntmps10
    go_wp2_with (go_at_call 35; go_in)
    all_goals (go_ret; exact ⟨rfl, Below.refl _ _⟩)
  by_cases c6 : (262143 : Int) < (line : Int)
  · go_enter Try.func10, Try.ntmps10
    go_wp2_with (go_at_call 35; go_in)
    all_goals (go_ret; exact ⟨rfl, Below.refl _ _⟩)
  by_cases c7 : (16383 : Int) < (col : Int)
  · go_enter Try.func10, Try.ntmps10
    go_wp2_with (go_at_call 35; go_in)
    all_goals (go_ret; exact ⟨rfl, Below.refl _ _⟩)
  have hss : s.size ≤ 65536 := by omega
  have hts : t.size ≤ 65536 := by omega
  have hcc : col ≤ 16383 := by omega
  obtain ⟨L, hL⟩ : ∃ L, L = [] ++ t.data.toList ++ List.replicate (padN kp (cfgF false false kp ind 0 0 ws t) col) 32 ++ s.data.toList := ⟨_, rfl⟩
  obtain ⟨F, hF⟩ : ∃ F, F = { stepL kp (padF kp (cfgF false false kp ind 0 0 ws t) col) s.data.toList with ws := 1 } := ⟨_, rfl⟩
  have Z5 := Lib.hid fun W => zz15d kp ind ws t s line col W L F hL hF hts hss (by omega) (by omega) (by omega)
  obtain ⟨o, ho⟩ : ∃ o : ByteArray, o = ⟨L.toArray⟩ := ⟨_, rfl⟩
  have hol : o.data.toList = L := by rw [ho]
  obtain ⟨K, hK⟩ : ∃ K, K = padN kp (cfgF false false kp ind 0 0 ws t) col := ⟨_, rfl⟩
  rw [hL, ← hK] at hol
  obtain ⟨o1, o2, o3, o4, o5⟩ := out_facts t s o K hol
  have hKn := padN_le kp (cfgF false false kp ind 0 0 ws t) col
  rw [← hK] at hKn
  have PX := Lib.hid fun W => pfx36 o t W (by omega) (by omega) o2
  have SX := Lib.hid fun W => sfx37 o s (t.size + K) W (by omega) (by omega) o3
  obtain ⟨⟨C, Lb⟩, hCL⟩ : ∃ q, addL (1, true) t.data.toList = q := ⟨_, rfl⟩
  have CX := Lib.hid fun W => col38 t W (by omega) C Lb hCL
  have HO := Lib.hid ho
  have oi : (o.size : Int) = (t.size : Int) + (K : Int) + (s.size : Int) := by omega
  have kb : (K : Int) ≤ 16384 := by omega
  have mi : ((o.extract t.size (t.size + K)).size : Int) = (K : Int) := by omega
  obtain ⟨_, f2, _, _, _, _, f7, f8⟩ := cfgF_facts false false kp ind 0 0 ws t
  have HM := Lib.hid o5
  have PF1 : Hid (kp = false → K ≤ 1) := Lib.hid fun e => by subst e; rw [hK]; exact padN_false _ _
  have PF2 : Hid (kp = true → (Lb = true ∧ ind = 0 → K = 0) ∧ (¬ (Lb = true ∧ ind = 0) → col ≤ C + K)) := Lib.hid fun e => by
    obtain ⟨g1, g2⟩ := f8 e
    rw [hCL] at g1 g2
    simp only at g1 g2
    subst e
    refine ⟨fun hz => ?_, fun hz => ?_⟩
    · rw [hK]; unfold padN; rw [if_pos ⟨g2.trans hz.1, f2.trans hz.2⟩]
    · rw [hK, ← g1]; exact padN_true _ _ (fun h => hz ⟨g2.symm.trans h.1, f2.symm.trans h.2⟩)
  have CB : C ≤ 65538 := by
    have := addL_le t.data.toList (1, true); rw [hCL] at this
    have e : t.data.toList.length = t.size := by simp
    simp only at this; omega
  have CBi : (C : Int) ≤ 65538 := by omega
  clear hL hF hol hK o1 o2 o3 o4 o5 hCL f2 f7 f8 ho
  go_enter Try.func10, Try.ntmps10
  go_wp2_with (first | (go_at_call 35; go_in) | (go_at_call 15; refine (Z5.out _).mono ?_; rintro e w1 ⟨rfl, b1⟩; unfold outS; rw [← HO.out]; have a0 : (w1.alloc (.cells #[.string o, .int .u64 F.line, .int .u64 F.last, .int .u8 F.ws, .bool F.wn, .bool F.mn] 27)).cell? ⟨w1.heap.size, 0, none⟩ = some (.string o) := ((new_cell w1 _ 27 0 _ rfl).trans rfl); have B1 := Lib.hid b1; clear b1 Z5) | (go_at_call 36; refine (PX.out _).mono ?_; rintro e w2 ⟨rfl, rfl⟩) | (go_at_call 37; refine (SX.out _).mono ?_; rintro e w3 ⟨rfl, rfl⟩))
  generalize hmid : o.extract t.size (t.size + K) = mid at HM mi ⊢
  generalize hWW : World.alloc w1 _ = WW
  have BW1 : Hid (Below w.heap.size w WW) := Lib.hid (by rw [← hWW]; exact (((Below.refl w.heap.size w).trans B1.out).alloc B1.out.size _))
  clear a0 B1 hWW hmid PX SX HO
  have hKi : (K : Int) ≤ 1 + (col : Int) := by omega
  have PF1i : Hid (kp = false → (K : Int) ≤ 1) := Lib.hid fun e => by have := PF1.out e; omega
  go_loopg [17] (K) (fun g v17 wr => ∃ j : Nat, v17 = .int .i64 j ∧ (j : Int) ≤ (K : Int) ∧ K - j ≤ g ∧ wr = WW)
  case atStart => exact ⟨0, rfl, by omega, by omega, rfl⟩
  case round =>
    obtain ⟨j, rfl, hj, hg, rfl⟩ := hrel
    by_cases hlt : (j : Int) < (K : Int)
    · have hjn : j < mid.size := by omega
      have hc := HM.out j hjn
      have hc2 : ((mid[j].toNat : Nat) : Int) = 32 := by rw [hc]; rfl
      have hjm : (j : Int) < (mid.size : Int) := by omega
      clear hc
      go_wp2
      go_roundg (K - (j + 1))
      case measure => omega
      case rel => exact ⟨j + 1, by go_num, by omega, Nat.le_refl _, rfl⟩
    · have hjk : (mid.size : Int) = (K : Int) := mi
      cases kp
      · have h1 := PF1i.out rfl
        go_wp2
        go_ret
        exact ⟨rfl, BW1.out⟩
      · obtain ⟨q1, q2⟩ := PF2.out rfl
        cases Lb
        · have h2 := q2 (by simp)
          have h3 : (col : Int) ≤ (C : Int) + (K : Int) := by omega
          clear q1 q2 PF1 PF2 PF1i h2
          go_wp2_with (go_at_call 38; refine (CX.out _).mono ?_; rintro e w4 ⟨rfl, rfl⟩)
          go_ret
          exact ⟨rfl, BW1.out⟩
        · by_cases hz : ind = 0
          · have h2 := q1 ⟨rfl, hz⟩
            have h3 : (K : Int) = 0 := by omega
            have h4 : (ind : Int) = 0 := by omega
            clear q1 q2 PF1 PF2 PF1i h2 hz
            go_wp2_with (go_at_call 38; refine (CX.out _).mono ?_; rintro e w4 ⟨rfl, rfl⟩)
            go_ret
            exact ⟨rfl, BW1.out⟩
          · have h2 := q2 (fun h => hz h.2)
            have h3 : (col : Int) ≤ (C : Int) + (K : Int) := by omega
            have h4 : ¬ (ind : Int) = 0 := by omega
            clear q1 q2 PF1 PF2 PF1i h2 hz
            go_wp2_with (go_at_call 38; refine (CX.out _).mono ?_; rintro e w4 ⟨rfl, rfl⟩)
            go_ret
            exact ⟨rfl, BW1.out⟩
theorem law10 (kp : Bool) (x1 x2 : Int) (t s : ByteArray) (x5 x6 : Int) (h1 : (Lit.int .u64 x1).wf = true) (h2 : (Lit.int .u8 x2).wf = true) (h5 : (Lit.int .u64 x5).wf = true) (h6 : (Lit.int .u64 x6).wf = true) (w : World) :
    Calls Try.prog 10 #[.bool kp, .int .u64 x1, .int .u8 x2, .string t, .string s, .int .u64 x5, .int .u64 x6] w fun e w' => e = .returned (.bool true) ∧ Below w.heap.size w w' := by
  obtain ⟨ind, rfl, ha⟩ := wf_u64 h1
  obtain ⟨ws, rfl, hb⟩ := wf_u8 h2
  obtain ⟨line, rfl, hc⟩ := wf_u64 h5
  obtain ⟨col, rfl, hd⟩ := wf_u64 h6
  exact law10' kp ind ws t s line col w ha hb hc hd
end Go.Proofs.Ytonhphjejlidiaa
