/-
  The walks of the law's own model of atoi: zzDigit36, zzDigit64, zzBytes, zzASCII, zzLargeBase. Conditions: those in each theorem.
-/
import Derived.Test.YtopaaaacbegmnaaDoorLg
namespace Go.Proofs.YtopaaaacbegmnaaDoor
set_option linter.unusedVariables false
open Go.RowKit Go.Lib

/-- a digit as the model says it: -1 is none -/
def dI (x : Int) : Int := if 48 ≤ x ∧ x ≤ 57 then x - 48 else if 97 ≤ x ∧ x ≤ 122 then x - 97 + 10 else if 65 ≤ x ∧ x ≤ 90 then x - 65 + 10 else -1
def dI64 (x : Int) : Int := if 48 ≤ x ∧ x ≤ 57 then x - 48 else if 97 ≤ x ∧ x ≤ 122 then x - 97 + 10 else if 65 ≤ x ∧ x ≤ 90 then x - 65 + 36 else if x = 64 then 62 else if x = 95 then 63 else -1
theorem dI_dig (c : Nat) : dI (c : Int) = if dig c = 99 then -1 else (dig c : Int) := by
  unfold dI dig
  repeat' split
  all_goals omega
theorem dI64_dig (c : Nat) : dI64 (c : Int) = if dig64 c = 99 then -1 else (dig64 c : Int) := by
  unfold dI64 dig64
  repeat' split
  all_goals omega
theorem digit27 (x : Int) (h0 : 0 ≤ x) (h1 : x < 256) (w : World) : Calls Tryd.prog 27 #[.int .u8 x] w fun e w' => e = .returned (.int .i64 (dI x)) ∧ w' = w := by
  by_cases cD : 48 ≤ x ∧ x ≤ 57
  · have hv : dI x = x - 48 := by unfold dI; rw [if_pos cD]
    obtain ⟨i1, i2⟩ := cD
    go_enter Tryd.func27, Tryd.ntmps27
    go_wp2
    go_ret
    first | exact ⟨ret_i64 hv.symm, rfl⟩ | exact ⟨rfl, rfl⟩
  · by_cases cL : 97 ≤ x ∧ x ≤ 122
    · have hv : dI x = x - 97 + 10 := by unfold dI; rw [if_neg cD, if_pos cL]
      obtain ⟨i1, i2⟩ := cL
      clear cD
      go_enter Tryd.func27, Tryd.ntmps27
      go_wp2
      go_ret
      first | exact ⟨ret_i64 hv.symm, rfl⟩ | exact ⟨rfl, rfl⟩
    · by_cases cU : 65 ≤ x ∧ x ≤ 90
      · have hv : dI x = x - 65 + 10 := by unfold dI; rw [if_neg cD, if_neg cL, if_pos cU]
        obtain ⟨i1, i2⟩ := cU
        clear cD cL
        go_enter Tryd.func27, Tryd.ntmps27
        go_wp2
        go_ret
        first | exact ⟨ret_i64 hv.symm, rfl⟩ | exact ⟨rfl, rfl⟩
      · have hv : dI x = -1 := by unfold dI; rw [if_neg cD, if_neg cL, if_neg cU]
        go_enter Tryd.func27, Tryd.ntmps27
        go_wp2
        all_goals go_ret
        all_goals first | exact ⟨ret_i64 hv.symm, rfl⟩ | exact ⟨rfl, rfl⟩
theorem digit28 (x : Int) (h0 : 0 ≤ x) (h1 : x < 256) (w : World) : Calls Tryd.prog 28 #[.int .u8 x] w fun e w' => e = .returned (.int .i64 (dI64 x)) ∧ w' = w := by
  by_cases cD : 48 ≤ x ∧ x ≤ 57
  · have hv : dI64 x = x - 48 := by unfold dI64; rw [if_pos cD]
    obtain ⟨i1, i2⟩ := cD
    go_enter Tryd.func28, Tryd.ntmps28
    go_wp2
    go_ret
    first | exact ⟨ret_i64 hv.symm, rfl⟩ | exact ⟨rfl, rfl⟩
  · by_cases cL : 97 ≤ x ∧ x ≤ 122
    · have hv : dI64 x = x - 97 + 10 := by unfold dI64; rw [if_neg cD, if_pos cL]
      obtain ⟨i1, i2⟩ := cL
      clear cD
      go_enter Tryd.func28, Tryd.ntmps28
      go_wp2
      go_ret
      first | exact ⟨ret_i64 hv.symm, rfl⟩ | exact ⟨rfl, rfl⟩
    · by_cases cU : 65 ≤ x ∧ x ≤ 90
      · have hv : dI64 x = x - 65 + 36 := by unfold dI64; rw [if_neg cD, if_neg cL, if_pos cU]
        obtain ⟨i1, i2⟩ := cU
        clear cD cL
        go_enter Tryd.func28, Tryd.ntmps28
        go_wp2
        go_ret
        first | exact ⟨ret_i64 hv.symm, rfl⟩ | exact ⟨rfl, rfl⟩
      · by_cases cA : x = 64
        · have hv : dI64 x = 62 := by unfold dI64; rw [if_neg cD, if_neg cL, if_neg cU, if_pos cA]
          clear cD cL cU
          subst cA
          go_enter Tryd.func28, Tryd.ntmps28
          go_wp2
          go_ret
          first | exact ⟨ret_i64 hv.symm, rfl⟩ | exact ⟨rfl, rfl⟩
        · by_cases cB : x = 95
          · have hv : dI64 x = 63 := by unfold dI64; rw [if_neg cD, if_neg cL, if_neg cU, if_neg cA, if_pos cB]
            clear cD cL cU cA
            subst cB
            go_enter Tryd.func28, Tryd.ntmps28
            go_wp2
            go_ret
            first | exact ⟨ret_i64 hv.symm, rfl⟩ | exact ⟨rfl, rfl⟩
          · have hv : dI64 x = -1 := by unfold dI64; rw [if_neg cD, if_neg cL, if_neg cU, if_neg cA, if_neg cB]
            go_enter Tryd.func28, Tryd.ntmps28
            go_wp2
            all_goals go_ret
            all_goals first | exact ⟨ret_i64 hv.symm, rfl⟩ | exact ⟨rfl, rfl⟩

/-- yes, and then Q is so; or no -/
def SayB (Q : Bool → Prop) (e : Ending) : Prop := ∃ b : Bool, e = .returned (.bool b) ∧ Q b
theorem bytes6 (s : ByteArray) (w : World) : Calls Tryd.prog 6 #[.string s] w fun e w' => SayB (fun _ => True) e ∧ w = w' := by
  by_cases h : (1048576 : Int) < (s.size : Int)
  · go_enter Tryd.func6, Tryd.ntmps6
    go_wp2
    go_ret
    exact ⟨⟨_, rfl, trivial⟩, rfl⟩
  · go_enter Tryd.func6, Tryd.ntmps6
    go_wp2
    go_ret
    exact ⟨⟨_, rfl, trivial⟩, rfl⟩
theorem bool_ends {a b : Bool} (h : a = b) : Ending.returned (.bool a) = .returned (.bool b) := by rw [h]
theorem ascii7 (s : ByteArray) (hs : s.size ≤ 1073741824) (w : World) : Calls Tryd.prog 7 #[.string s] w fun e w' => SayB (fun b => b = true → ∀ c ∈ s.data.toList, c.toNat < 128) e ∧ w = w' := by
  have sz : s.data.toList.length = s.size := by simp
  obtain ⟨l, hl⟩ : ∃ l, l = s.data.toList := ⟨_, rfl⟩
  rw [← hl] at sz ⊢
  have HL := Lib.hid hl
  clear hl
  go_enter Tryd.func7, Tryd.ntmps7
  go_wp2
  go_loop [3] (fun v3 => ∃ (k : Nat), v3 = .int .i64 k ∧ (k : Int) ≤ (s.size : Int) ∧ Hid (∀ c ∈ l.take k, c.toNat < 128)) (fun v3 => s.size - (intOf v3).toNat)
  case atStart => exact ⟨0, rfl, by omega, Lib.hid (by intro c hc; cases hc)⟩
  case round =>
    obtain ⟨k, rfl, hk, hh⟩ := hrel
    by_cases hlt : (k : Int) < (s.size : Int)
    · have hk' : k < s.size := by omega
      obtain ⟨c, hc⟩ : ∃ c, c = s[k] := ⟨_, rfl⟩
      have htk : l.take (k + 1) = l.take k ++ [c] := by
        rw [List.take_succ_eq_append_getElem (by omega)]
        have := Lib.data_getElem? s k hk'
        rw [← HL.out, List.getElem?_eq_getElem (by omega)] at this
        rw [Option.some.inj this, hc]
      have hcv : ((s[k].toNat : Nat) : Int) = ((c.toNat : Nat) : Int) := by rw [hc]
      have hcs := c.toNat_lt
      have HT := Lib.hid htk
      clear hc htk
      by_cases h128 : (128 : Int) ≤ ((c.toNat : Nat) : Int)
      · go_wp2
        all_goals go_ret
        all_goals exact ⟨⟨_, rfl, fun h => by cases h⟩, rfl⟩
      · have HN : Hid (∀ c ∈ l.take (k + 1), c.toNat < 128) := Lib.hid (by
          rw [HT.out]
          intro x hx
          rcases List.mem_append.1 hx with h | h
          · exact hh.out x h
          · rw [List.mem_singleton.1 h]; omega)
        clear hh
        go_wp2
        go_round
        case rel => exact ⟨k + 1, by go_num, by omega, HN⟩
        case measure => simp [intOf]; omega
    · have HN : Hid (∀ c ∈ l, c.toNat < 128) := Lib.hid (by
        have := hh.out
        rw [List.take_of_length_le (by omega)] at this
        exact this)
      go_wp2
      go_ret
      exact ⟨⟨_, rfl, fun _ => HN.out⟩, rfl⟩
theorem lg_step2 (acc b d : Nat) (u m1 m2 : Int) (hu : u = acc) (h1 : IntKind.u64.wrap (u * (b : Int)) = m1) (h2 : IntKind.u64.wrap (m1 + (d : Int)) = m2) : m2 = (((acc * b + d) % 18446744073709551616 : Nat) : Int) := by
  rw [IntKind.wrap_u64] at h1 h2
  rw [← h2, ← h1, hu, ← Int.natCast_mul, Int.natCast_emod, Int.natCast_add]
  omega
theorem dI64_none {c : UInt8} (h : dig64 c.toNat = 99) : dI64 ((c.toNat : Nat) : Int) = -1 := by rw [dI64_dig, if_pos h]
theorem dI64_some {c : UInt8} (h : ¬ dig64 c.toNat = 99) : dI64 ((c.toNat : Nat) : Int) = (dig64 c.toNat : Int) := by rw [dI64_dig, if_neg h]
theorem dig64_lt (c : Nat) (h : ¬ dig64 c = 99) : dig64 c < 64 := by
  unfold dig64 at h ⊢
  repeat' split
  all_goals first | omega | (exfalso; apply h; simp_all)
set_option maxHeartbeats 1500000 in
set_option maxRecDepth 20000 in
theorem large18 (b : Nat) (h2 : 37 ≤ b) (h64 : b ≤ 64) (s : ByteArray) (hs : s.size ≤ 1073741824) (w : World) :
    Calls Tryd.prog 18 #[.string s, .int .i64 b] w fun e w' => e = .returned (.int .i64 (lg b 0 s.data.toList)) ∧ w = w' := by
  have sz : s.data.toList.length = s.size := by simp
  obtain ⟨l, hl⟩ : ∃ l, l = s.data.toList := ⟨_, rfl⟩
  rw [← hl] at sz ⊢
  have HL := Lib.hid hl
  clear hl
  obtain ⟨V, hV⟩ : ∃ V, V = lg b 0 l := ⟨_, rfl⟩
  rw [← hV]
  have HV := Lib.hid hV
  clear hV
  go_enter Tryd.func18, Tryd.ntmps18
  go_wp2
  go_loop [5, 6] (fun v5 v6 => ∃ (k : Nat) (u : Int), v5 = .int .u64 u ∧ v6 = .int .i64 k ∧ (k : Int) ≤ (s.size : Int) ∧ 0 ≤ u ∧ u < 18446744073709551616 ∧ Hid (∃ acc : Nat, u = acc ∧ V = lg b acc (l.drop k))) (fun v5 v6 => s.size - (intOf v6).toNat)
  case atStart => exact ⟨0, 0, rfl, rfl, by omega, by omega, by omega, Lib.hid ⟨0, rfl, HV.out⟩⟩
  case round =>
    obtain ⟨k, u, rfl, rfl, hk, hu0, hu1, hh⟩ := hrel
    by_cases hlt : (k : Int) < (s.size : Int)
    · have hk' : k < s.size := by omega
      have hdrop : l.drop k = s[k] :: l.drop (k + 1) := by
        rw [List.drop_eq_getElem_cons (by omega)]
        have := Lib.data_getElem? s k hk'
        rw [← HL.out, List.getElem?_eq_getElem (by omega)] at this
        rw [Option.some.inj this]
      have h2' := hh.out
      rw [hdrop] at h2'
      clear hh
      have hh := Lib.hid h2'
      clear h2' hdrop
      obtain ⟨c, hc⟩ : ∃ c, c = s[k] := ⟨_, rfl⟩
      rw [← hc] at hh
      have hcv : ((s[k].toNat : Nat) : Int) = ((c.toNat : Nat) : Int) := by rw [hc]
      have hcs := c.toNat_lt
      clear hc
      obtain ⟨m1, hm1⟩ : ∃ m1, IntKind.u64.wrap (u * (b : Int)) = m1 := ⟨_, rfl⟩
      have HM1 := Lib.hid hm1
      have D := Lib.hid (fun W => digit28 ((c.toNat : Nat) : Int) (by omega) (by omega) W)
      by_cases hn : dig64 c.toNat = 99
      · rw [dI64_none hn] at D
        have R : Hid (0 = V) := Lib.hid (by
          obtain ⟨acc, _, h⟩ := hh.out
          rw [h, lg_bad (by omega)])
        clear hh hn
        go_wp2_with (go_at_call 28; refine (D.out _).mono ?_; rintro e w' ⟨rfl, hw'⟩; have hw' := hw'.symm; subst hw')
        all_goals go_ret
        all_goals exact ⟨ret_i64 R.out, rfl⟩
      · rw [dI64_some hn] at D
        have hdl := dig64_lt c.toNat hn
        obtain ⟨d, hd⟩ : ∃ d, d = dig64 c.toNat := ⟨_, rfl⟩
        rw [← hd] at D hdl
        by_cases hbd : (b : Int) ≤ (d : Int)
        · have R : Hid (0 = V) := Lib.hid (by
            obtain ⟨acc, _, h⟩ := hh.out
            rw [h, lg_bad (by omega)])
          clear hh hn hd
          go_wp2_with (go_at_call 28; refine (D.out _).mono ?_; rintro e w' ⟨rfl, hw'⟩; have hw' := hw'.symm; subst hw')
          all_goals go_ret
          all_goals exact ⟨ret_i64 R.out, rfl⟩
        · obtain ⟨m2, hm2⟩ : ∃ m2, IntKind.u64.wrap (m1 + (d : Int)) = m2 := ⟨_, rfl⟩
          have HN : Hid (∃ acc : Nat, m2 = acc ∧ V = lg b acc (l.drop (k + 1))) := Lib.hid (by
            obtain ⟨acc, h1, h⟩ := hh.out
            rw [lg_next (by omega), ← hd] at h
            exact ⟨_, lg_step2 acc b d u m1 m2 h1 HM1.out hm2, h⟩)
          have hm20 : 0 ≤ m2 ∧ m2 < 18446744073709551616 := by rw [IntKind.wrap_u64] at hm2; omega
          obtain ⟨hm20, hm21⟩ := hm20
          have hm10 : 0 ≤ m1 ∧ m1 < 18446744073709551616 := by rw [IntKind.wrap_u64] at hm1; omega
          obtain ⟨hm10, hm11⟩ := hm10
          clear hh hn hd
          go_wp2_with (go_at_call 28; refine (D.out _).mono ?_; rintro e w' ⟨rfl, hw'⟩; have hw' := hw'.symm; subst hw')
          go_round
          case rel => exact ⟨k + 1, m2, rfl, by go_num, by omega, hm20, hm21, HN⟩
          case measure => simp [intOf]; omega
    · obtain ⟨z, hz⟩ : ∃ z, IntKind.i64.wrap u = z := ⟨_, rfl⟩
      have R : Hid (z = V) := Lib.hid (by
        obtain ⟨acc, h1, h⟩ := hh.out
        rw [h, List.drop_eq_nil_of_le (by omega), ← hz, wrap_is, h1]
        rfl)
      go_wp2
      go_ret
      exact ⟨ret_i64 R.out, rfl⟩
end Go.Proofs.YtopaaaacbegmnaaDoor
