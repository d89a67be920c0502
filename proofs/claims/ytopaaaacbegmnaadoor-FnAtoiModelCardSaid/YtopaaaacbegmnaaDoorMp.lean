/-
  The walk of the law's own zzParseInt at every base from 2 to 36 (printed by genmp.py). Conditions: those in each theorem.
-/
import Derived.Test.YtopaaaacbegmnaaDoorMa
import Derived.Lib.Bytes
import Derived.Lib.ItoaWalk
namespace Go.Proofs.YtopaaaacbegmnaaDoor
set_option linter.unusedVariables false
open Go.RowKit Go.Lib

theorem pu_bad {b acc : Nat} {c : UInt8} {r : List UInt8} (h : b ≤ dig c.toNat) : pu b acc (c :: r) = .bad := by rw [pu, if_pos h]
theorem pu_over {b acc : Nat} {c : UInt8} {r : List UInt8} (h : ¬ b ≤ dig c.toNat) (ho : 18446744073709551616 ≤ acc * b + dig c.toNat) : pu b acc (c :: r) = .over := by rw [pu, if_neg h, if_pos ho]
theorem pu_next {b acc : Nat} {c : UInt8} {r : List UInt8} (h : ¬ b ≤ dig c.toNat) (ho : ¬ 18446744073709551616 ≤ acc * b + dig c.toNat) : pu b acc (c :: r) = pu b (acc * b + dig c.toNat) r := by rw [pu, if_neg h, if_neg ho]
theorem piV_bad (n : Bool) : piV n .bad = 0 := by cases n <;> rfl
/-- the model's look for an overflow: the cut of what is left -/
theorem quo_over {b d acc : Nat} (hb : 0 < b) (hd : d < b) (hb36 : b ≤ 36) : (18446744073709551615 - d) / b < acc ↔ 18446744073709551616 ≤ acc * b + d := by
  rw [Nat.div_lt_iff_lt_mul hb]
  omega
theorem dI_none {c : UInt8} (h : dig c.toNat = 99) : dI ((c.toNat : Nat) : Int) = -1 := by rw [dI_dig, if_pos h]
theorem dI_some {c : UInt8} (h : ¬ dig c.toNat = 99) : dI ((c.toNat : Nat) : Int) = (dig c.toNat : Int) := by rw [dI_dig, if_neg h]
theorem quo_val {b d : Nat} {B D q : Int} (hb : 0 < b) (hd : d < b) (hb36 : b ≤ 36) (hB : B = b) (hD : D = d) (hq : (18446744073709551615 - D).tdiv B = q) : q = (((18446744073709551615 - d) / b : Nat) : Int) := by
  rw [← hq, hB, hD, Int.tdiv_eq_ediv_of_nonneg (by omega), Int.natCast_ediv]
  congr 1
  omega
theorem quo_lt (d b : Nat) : (((18446744073709551615 - d) / b : Nat) : Int) < 18446744073709551616 := by
  have h := Nat.div_le_self (18446744073709551615 - d) b
  generalize (18446744073709551615 - d) / b = x at h ⊢
  omega
theorem mul_val {b d acc : Nat} {B D u m1 : Int} (hB : B = b) (hu : u = acc) (ho : ¬ 18446744073709551616 ≤ acc * b + d) (h1 : IntKind.u64.wrap (u * B) = m1) : m1 = ((acc * b : Nat) : Int) := by
  rw [IntKind.wrap_u64, hu, hB, ← Int.natCast_mul] at h1
  omega

set_option maxHeartbeats 1500000 in
set_option maxRecDepth 20000 in
theorem parse16_plus (b : Nat) (h2 : 2 ≤ b) (h36 : b ≤ 36) (s t : ByteArray) (hs : s.size ≤ 1073741824) (hpos : 0 < s.size) (h0 : ((s[0].toNat : Nat) : Int) = 43) (ht : t = s.extract 1 s.size) (V : Int) (HV0 : Hid (V = piV false (pu b 0 t.data.toList))) (w : World) :
    Calls Tryd.prog 16 #[.string s, .int .i64 b] w fun e w' => e = .returned (.int .i64 V) ∧ w = w' := by
  have hposi : (0 : Int) < (s.size : Int) := by omega
  have hone : (1 : Int) ≤ (s.size : Int) := by omega
  have hts : t.size ≤ 1073741824 := by rw [ht, ByteArray.size_extract]; omega
  have hsl : ∀ W, (Instr.slice 9 (.string s) (some (.int .i64 1)) none none).run Tryd.prog W = .ok (.string t) W := fun W => by
    rw [ht, run_slice_string_from_if W 9 s .i64 _ Tryd.underlying9, if_pos ⟨by omega, by omega⟩]
    rfl
  clear ht
  have sz : t.data.toList.length = t.size := by simp
  obtain ⟨l, hl⟩ : ∃ l, l = t.data.toList := ⟨_, rfl⟩
  have HV : Hid (V = piV false (pu b 0 l)) := by rw [hl]; exact HV0
  rw [← hl] at sz
  have HL := Lib.hid hl
  clear hl HV0
  obtain ⟨B, hB⟩ : ∃ B : Int, B = b := ⟨_, rfl⟩
  rw [← hB]
  have hB2 : 2 ≤ B := by omega
  have hB36 : B ≤ 36 := by omega
  have hBz : ¬ B = 0 := by omega
  have HBb := Lib.hid hB
  have hmin : wrap64 (-wrap64 9223372036854775808) = -9223372036854775808 := by
    unfold wrap64
    omega
  have HMin := Lib.hid hmin
  clear hB hmin
  by_cases ht0 : (t.size : Int) = 0
  · have R : Hid (0 = V) := Lib.hid (by
      rw [HV.out, List.length_eq_zero_iff.1 (show l.length = 0 by omega)]
      rfl)
    clear HV
    go_enter Tryd.func16, Tryd.ntmps16
    go_wp2
    go_ret
    exact ⟨ret_i64 R.out, rfl⟩
  have hbz : ((t.size : Int) == 0) = false := by rw [beq_eq_false_iff_ne]; exact ht0
  go_enter Tryd.func16, Tryd.ntmps16
  go_wp2
  go_loop [7, 8] (fun v7 v8 => ∃ (k : Nat) (u : Int), v7 = .int .u64 u ∧ v8 = .int .i64 k ∧ (k : Int) ≤ (t.size : Int) ∧ 0 ≤ u ∧ u < 18446744073709551616 ∧ Hid (∃ acc : Nat, u = acc ∧ V = piV false (pu b acc (l.drop k)))) (fun v7 v8 => t.size - (intOf v8).toNat)
  case atStart => exact ⟨0, 0, rfl, rfl, by omega, by omega, by omega, Lib.hid ⟨0, rfl, HV.out⟩⟩
  case round =>
    obtain ⟨k, u, rfl, rfl, hk, hu0, hu1, hh⟩ := hrel
    by_cases hlt : (k : Int) < (t.size : Int)
    · have hk' : k < t.size := by omega
      have hdrop : l.drop k = t[k] :: l.drop (k + 1) := by
        rw [List.drop_eq_getElem_cons (by omega)]
        have := Lib.data_getElem? t k hk'
        rw [← HL.out, List.getElem?_eq_getElem (by omega)] at this
        rw [Option.some.inj this]
      have h2' := hh.out
      rw [hdrop] at h2'
      clear hh
      have hh := Lib.hid h2'
      clear h2' hdrop
      obtain ⟨c, hc⟩ : ∃ c, c = t[k] := ⟨_, rfl⟩
      rw [← hc] at hh
      have hcv : ((t[k].toNat : Nat) : Int) = ((c.toNat : Nat) : Int) := by rw [hc]
      have hcs := c.toNat_lt
      clear hc
      have D0 := Lib.hid (fun W => digit27 ((c.toNat : Nat) : Int) (by omega) (by omega) W)
      by_cases hn : dig c.toNat = 99
      · rw [dI_none hn] at D0
        have R : Hid (0 = V) := Lib.hid (by
          obtain ⟨acc, _, h⟩ := hh.out
          rw [h, pu_bad (by omega), piV_bad])
        clear hh hn
        go_wp2_with (go_at_call 27; refine (D0.out _).mono ?_; rintro e w' ⟨rfl, hw'⟩; have hw' := hw'.symm; subst hw')
        all_goals go_ret
        all_goals exact ⟨ret_i64 R.out, rfl⟩
      · rw [dI_some hn] at D0
        obtain ⟨d, hd⟩ : ∃ d, d = dig c.toNat := ⟨_, rfl⟩
        rw [← hd] at D0
        obtain ⟨D, hD⟩ : ∃ D : Int, D = d := ⟨_, rfl⟩
        rw [← hD] at D0
        have hD0 : 0 ≤ D := by omega
        by_cases hbd : B ≤ D
        · have R : Hid (0 = V) := Lib.hid (by
            have hB := HBb.out
            obtain ⟨acc, _, h⟩ := hh.out
            rw [h, pu_bad (by omega), piV_bad])
          clear hh hn hd hD
          go_wp2_with (go_at_call 27; refine (D0.out _).mono ?_; rintro e w' ⟨rfl, hw'⟩; have hw' := hw'.symm; subst hw')
          all_goals go_ret
          all_goals exact ⟨ret_i64 R.out, rfl⟩
        · have hDb : D < B := by omega
          obtain ⟨q, hq⟩ : ∃ q, (18446744073709551615 - D).tdiv B = q := ⟨_, rfl⟩
          have HQ := Lib.hid (quo_val (by omega) (show d < b by have := HBb.out; omega) h36 HBb.out hD hq)
          have hq0 : 0 ≤ q := by rw [HQ.out]; exact Int.natCast_nonneg _
          have hq1 : q < 18446744073709551616 := by
            rw [HQ.out]
            exact quo_lt d b
          by_cases ho : q < u
          · have R : Hid (9223372036854775807 = V) := Lib.hid (by
              have hB := HBb.out
              obtain ⟨acc, h1, h⟩ := hh.out
              rw [h, pu_over (by omega) (by
                rw [← hd]
                refine (quo_over (by omega) (by omega) h36).1 ?_
                have := HQ.out
                omega)]
              rfl)
            clear hh hn hd hD HQ
            go_wp2_with (go_at_call 27; refine (D0.out _).mono ?_; rintro e w' ⟨rfl, hw'⟩; have hw' := hw'.symm; subst hw')
            all_goals go_ret
            all_goals exact ⟨ret_i64 R.out, rfl⟩
          · obtain ⟨m1, hm1⟩ : ∃ m1, IntKind.u64.wrap (u * B) = m1 := ⟨_, rfl⟩
            have HN : Hid (∃ acc : Nat, m1 + D = acc ∧ m1 + D < 18446744073709551616 ∧ 0 ≤ m1 ∧ V = piV false (pu b acc (l.drop (k + 1)))) := Lib.hid (by
              have hB := HBb.out
              obtain ⟨acc, h1, h⟩ := hh.out
              have hno : ¬ 18446744073709551616 ≤ acc * b + d := by
                intro h9
                have := (quo_over (b := b) (d := d) (acc := acc) (by omega) (by omega) h36).2 h9
                have := HQ.out
                omega
              have hmv := mul_val (D := D) hB h1 hno hm1
              rw [hd] at hno
              rw [pu_next (by omega) hno, ← hd] at h
              exact ⟨acc * b + d, by rw [hmv, hD]; omega, by rw [hmv, hD]; omega, by rw [hmv]; omega, h⟩)
            have hr1 : m1 + D < 18446744073709551616 := by obtain ⟨_, _, h, _⟩ := HN.out; exact h
            have hr0 : 0 ≤ m1 := by obtain ⟨_, _, _, h, _⟩ := HN.out; exact h
            have HN2 : Hid (∃ acc : Nat, m1 + D = acc ∧ V = piV false (pu b acc (l.drop (k + 1)))) := Lib.hid (by obtain ⟨acc, h1, _, _, h2⟩ := HN.out; exact ⟨acc, h1, h2⟩)
            have hm1l : m1 < 18446744073709551616 := by omega
            clear hh hn hd hD HQ HN
            go_wp2_with (go_at_call 27; refine (D0.out _).mono ?_; rintro e w' ⟨rfl, hw'⟩; have hw' := hw'.symm; subst hw')
            go_round
            case rel => exact ⟨k + 1, m1 + D, rfl, by go_num, by omega, by omega, hr1, HN2⟩
            case measure => simp [intOf]; omega
    ·
      have HU : Hid (∃ acc : Nat, u = acc ∧ V = piV false (.ok acc)) := Lib.hid (by
        obtain ⟨acc, h1, h⟩ := hh.out
        rw [List.drop_eq_nil_of_le (by omega)] at h
        exact ⟨acc, h1, h⟩)
      by_cases hc : (9223372036854775808 : Int) ≤ u
      · have R : Hid (9223372036854775807 = V) := Lib.hid (by
          obtain ⟨acc, h1, h⟩ := HU.out
          rw [h]
          show _ = (if 9223372036854775808 ≤ acc then _ else _)
          rw [if_pos (by omega)])
        clear hh HU
        go_wp2
        go_ret
        exact ⟨ret_i64 R.out, rfl⟩
      · have R : Hid (u = V) := Lib.hid (by
          obtain ⟨acc, h1, h⟩ := HU.out
          rw [h]
          show _ = (if 9223372036854775808 ≤ acc then _ else _)
          rw [if_neg (by omega), h1])
        have hlt2 : u < 9223372036854775808 := by omega
        clear hh HU
        go_wp2
        go_ret
        exact ⟨ret_i64 R.out, rfl⟩

set_option maxHeartbeats 1500000 in
set_option maxRecDepth 20000 in
theorem parse16_minus (b : Nat) (h2 : 2 ≤ b) (h36 : b ≤ 36) (s t : ByteArray) (hs : s.size ≤ 1073741824) (hpos : 0 < s.size) (h0 : ((s[0].toNat : Nat) : Int) = 45) (ht : t = s.extract 1 s.size) (V : Int) (HV0 : Hid (V = piV true (pu b 0 t.data.toList))) (w : World) :
    Calls Tryd.prog 16 #[.string s, .int .i64 b] w fun e w' => e = .returned (.int .i64 V) ∧ w = w' := by
  have hposi : (0 : Int) < (s.size : Int) := by omega
  have hone : (1 : Int) ≤ (s.size : Int) := by omega
  have hts : t.size ≤ 1073741824 := by rw [ht, ByteArray.size_extract]; omega
  have hsl : ∀ W, (Instr.slice 9 (.string s) (some (.int .i64 1)) none none).run Tryd.prog W = .ok (.string t) W := fun W => by
    rw [ht, run_slice_string_from_if W 9 s .i64 _ Tryd.underlying9, if_pos ⟨by omega, by omega⟩]
    rfl
  clear ht
  have sz : t.data.toList.length = t.size := by simp
  obtain ⟨l, hl⟩ : ∃ l, l = t.data.toList := ⟨_, rfl⟩
  have HV : Hid (V = piV true (pu b 0 l)) := by rw [hl]; exact HV0
  rw [← hl] at sz
  have HL := Lib.hid hl
  clear hl HV0
  obtain ⟨B, hB⟩ : ∃ B : Int, B = b := ⟨_, rfl⟩
  rw [← hB]
  have hB2 : 2 ≤ B := by omega
  have hB36 : B ≤ 36 := by omega
  have hBz : ¬ B = 0 := by omega
  have HBb := Lib.hid hB
  have hmin : wrap64 (-wrap64 9223372036854775808) = -9223372036854775808 := by
    unfold wrap64
    omega
  have HMin := Lib.hid hmin
  clear hB hmin
  by_cases ht0 : (t.size : Int) = 0
  · have R : Hid (0 = V) := Lib.hid (by
      rw [HV.out, List.length_eq_zero_iff.1 (show l.length = 0 by omega)]
      rfl)
    clear HV
    go_enter Tryd.func16, Tryd.ntmps16
    go_wp2
    go_ret
    exact ⟨ret_i64 R.out, rfl⟩
  have hbz : ((t.size : Int) == 0) = false := by rw [beq_eq_false_iff_ne]; exact ht0
  go_enter Tryd.func16, Tryd.ntmps16
  go_wp2
  go_loop [7, 8] (fun v7 v8 => ∃ (k : Nat) (u : Int), v7 = .int .u64 u ∧ v8 = .int .i64 k ∧ (k : Int) ≤ (t.size : Int) ∧ 0 ≤ u ∧ u < 18446744073709551616 ∧ Hid (∃ acc : Nat, u = acc ∧ V = piV true (pu b acc (l.drop k)))) (fun v7 v8 => t.size - (intOf v8).toNat)
  case atStart => exact ⟨0, 0, rfl, rfl, by omega, by omega, by omega, Lib.hid ⟨0, rfl, HV.out⟩⟩
  case round =>
    obtain ⟨k, u, rfl, rfl, hk, hu0, hu1, hh⟩ := hrel
    by_cases hlt : (k : Int) < (t.size : Int)
    · have hk' : k < t.size := by omega
      have hdrop : l.drop k = t[k] :: l.drop (k + 1) := by
        rw [List.drop_eq_getElem_cons (by omega)]
        have := Lib.data_getElem? t k hk'
        rw [← HL.out, List.getElem?_eq_getElem (by omega)] at this
        rw [Option.some.inj this]
      have h2' := hh.out
      rw [hdrop] at h2'
      clear hh
      have hh := Lib.hid h2'
      clear h2' hdrop
      obtain ⟨c, hc⟩ : ∃ c, c = t[k] := ⟨_, rfl⟩
      rw [← hc] at hh
      have hcv : ((t[k].toNat : Nat) : Int) = ((c.toNat : Nat) : Int) := by rw [hc]
      have hcs := c.toNat_lt
      clear hc
      have D0 := Lib.hid (fun W => digit27 ((c.toNat : Nat) : Int) (by omega) (by omega) W)
      by_cases hn : dig c.toNat = 99
      · rw [dI_none hn] at D0
        have R : Hid (0 = V) := Lib.hid (by
          obtain ⟨acc, _, h⟩ := hh.out
          rw [h, pu_bad (by omega), piV_bad])
        clear hh hn
        go_wp2_with (go_at_call 27; refine (D0.out _).mono ?_; rintro e w' ⟨rfl, hw'⟩; have hw' := hw'.symm; subst hw')
        all_goals go_ret
        all_goals exact ⟨ret_i64 R.out, rfl⟩
      · rw [dI_some hn] at D0
        obtain ⟨d, hd⟩ : ∃ d, d = dig c.toNat := ⟨_, rfl⟩
        rw [← hd] at D0
        obtain ⟨D, hD⟩ : ∃ D : Int, D = d := ⟨_, rfl⟩
        rw [← hD] at D0
        have hD0 : 0 ≤ D := by omega
        by_cases hbd : B ≤ D
        · have R : Hid (0 = V) := Lib.hid (by
            have hB := HBb.out
            obtain ⟨acc, _, h⟩ := hh.out
            rw [h, pu_bad (by omega), piV_bad])
          clear hh hn hd hD
          go_wp2_with (go_at_call 27; refine (D0.out _).mono ?_; rintro e w' ⟨rfl, hw'⟩; have hw' := hw'.symm; subst hw')
          all_goals go_ret
          all_goals exact ⟨ret_i64 R.out, rfl⟩
        · have hDb : D < B := by omega
          obtain ⟨q, hq⟩ : ∃ q, (18446744073709551615 - D).tdiv B = q := ⟨_, rfl⟩
          have HQ := Lib.hid (quo_val (by omega) (show d < b by have := HBb.out; omega) h36 HBb.out hD hq)
          have hq0 : 0 ≤ q := by rw [HQ.out]; exact Int.natCast_nonneg _
          have hq1 : q < 18446744073709551616 := by
            rw [HQ.out]
            exact quo_lt d b
          by_cases ho : q < u
          · have R : Hid (-9223372036854775808 = V) := Lib.hid (by
              have hB := HBb.out
              obtain ⟨acc, h1, h⟩ := hh.out
              rw [h, pu_over (by omega) (by
                rw [← hd]
                refine (quo_over (by omega) (by omega) h36).1 ?_
                have := HQ.out
                omega)]
              rfl)
            clear hh hn hd hD HQ
            go_wp2_with (go_at_call 27; refine (D0.out _).mono ?_; rintro e w' ⟨rfl, hw'⟩; have hw' := hw'.symm; subst hw')
            all_goals go_ret
            all_goals exact ⟨ret_i64 R.out, rfl⟩
          · obtain ⟨m1, hm1⟩ : ∃ m1, IntKind.u64.wrap (u * B) = m1 := ⟨_, rfl⟩
            have HN : Hid (∃ acc : Nat, m1 + D = acc ∧ m1 + D < 18446744073709551616 ∧ 0 ≤ m1 ∧ V = piV true (pu b acc (l.drop (k + 1)))) := Lib.hid (by
              have hB := HBb.out
              obtain ⟨acc, h1, h⟩ := hh.out
              have hno : ¬ 18446744073709551616 ≤ acc * b + d := by
                intro h9
                have := (quo_over (b := b) (d := d) (acc := acc) (by omega) (by omega) h36).2 h9
                have := HQ.out
                omega
              have hmv := mul_val (D := D) hB h1 hno hm1
              rw [hd] at hno
              rw [pu_next (by omega) hno, ← hd] at h
              exact ⟨acc * b + d, by rw [hmv, hD]; omega, by rw [hmv, hD]; omega, by rw [hmv]; omega, h⟩)
            have hr1 : m1 + D < 18446744073709551616 := by obtain ⟨_, _, h, _⟩ := HN.out; exact h
            have hr0 : 0 ≤ m1 := by obtain ⟨_, _, _, h, _⟩ := HN.out; exact h
            have HN2 : Hid (∃ acc : Nat, m1 + D = acc ∧ V = piV true (pu b acc (l.drop (k + 1)))) := Lib.hid (by obtain ⟨acc, h1, _, _, h2⟩ := HN.out; exact ⟨acc, h1, h2⟩)
            have hm1l : m1 < 18446744073709551616 := by omega
            clear hh hn hd hD HQ HN
            go_wp2_with (go_at_call 27; refine (D0.out _).mono ?_; rintro e w' ⟨rfl, hw'⟩; have hw' := hw'.symm; subst hw')
            go_round
            case rel => exact ⟨k + 1, m1 + D, rfl, by go_num, by omega, by omega, hr1, HN2⟩
            case measure => simp [intOf]; omega
    ·
      have HU : Hid (∃ acc : Nat, u = acc ∧ V = piV true (.ok acc)) := Lib.hid (by
        obtain ⟨acc, h1, h⟩ := hh.out
        rw [List.drop_eq_nil_of_le (by omega)] at h
        exact ⟨acc, h1, h⟩)
      by_cases hc : (9223372036854775808 : Int) < u
      · have R : Hid (-9223372036854775808 = V) := Lib.hid (by
          obtain ⟨acc, h1, h⟩ := HU.out
          rw [h]
          show _ = (if 9223372036854775808 < acc then _ else _)
          rw [if_pos (by omega)])
        clear hh HU
        go_wp2
        go_ret
        exact ⟨ret_i64 R.out, rfl⟩
      · have R : Hid (-u = V) := Lib.hid (by
          obtain ⟨acc, h1, h⟩ := HU.out
          rw [h]
          show _ = (if 9223372036854775808 < acc then _ else _)
          rw [if_neg (by omega), h1])
        clear hh HU
        by_cases he : u = 9223372036854775808
        · subst he
          go_wp2
          go_ret
          first | exact ⟨ret_i64 R.out, rfl⟩ | exact ⟨ret_i64 (HMin.out.trans R.out), rfl⟩
        · have hlt2 : u < 9223372036854775808 := by omega
          go_wp2
          go_ret
          exact ⟨ret_i64 R.out, rfl⟩

set_option maxHeartbeats 1500000 in
set_option maxRecDepth 20000 in
theorem parse16_none (b : Nat) (h2 : 2 ≤ b) (h36 : b ≤ 36) (t : ByteArray) (hts : t.size ≤ 1073741824) (hpos : 0 < t.size) (n1 : ¬ ((t[0].toNat : Nat) : Int) = 43) (n2 : ¬ ((t[0].toNat : Nat) : Int) = 45) (V : Int) (HV0 : Hid (V = piV false (pu b 0 t.data.toList))) (w : World) :
    Calls Tryd.prog 16 #[.string t, .int .i64 b] w fun e w' => e = .returned (.int .i64 V) ∧ w = w' := by
  have hposi : (0 : Int) < (t.size : Int) := by omega
  have z43 : (((t[0].toNat : Nat) : Int) == 43) = false := by rw [beq_eq_false_iff_ne]; exact n1
  have z45 : (((t[0].toNat : Nat) : Int) == 45) = false := by rw [beq_eq_false_iff_ne]; exact n2
  have sz : t.data.toList.length = t.size := by simp
  obtain ⟨l, hl⟩ : ∃ l, l = t.data.toList := ⟨_, rfl⟩
  have HV : Hid (V = piV false (pu b 0 l)) := by rw [hl]; exact HV0
  rw [← hl] at sz
  have HL := Lib.hid hl
  clear hl HV0
  obtain ⟨B, hB⟩ : ∃ B : Int, B = b := ⟨_, rfl⟩
  rw [← hB]
  have hB2 : 2 ≤ B := by omega
  have hB36 : B ≤ 36 := by omega
  have hBz : ¬ B = 0 := by omega
  have HBb := Lib.hid hB
  have hmin : wrap64 (-wrap64 9223372036854775808) = -9223372036854775808 := by
    unfold wrap64
    omega
  have HMin := Lib.hid hmin
  clear hB hmin
  have ht0 : ¬ (t.size : Int) = 0 := by omega
  have hbz : ((t.size : Int) == 0) = false := by rw [beq_eq_false_iff_ne]; exact ht0
  go_enter Tryd.func16, Tryd.ntmps16
  go_wp2
  go_loop [7, 8] (fun v7 v8 => ∃ (k : Nat) (u : Int), v7 = .int .u64 u ∧ v8 = .int .i64 k ∧ (k : Int) ≤ (t.size : Int) ∧ 0 ≤ u ∧ u < 18446744073709551616 ∧ Hid (∃ acc : Nat, u = acc ∧ V = piV false (pu b acc (l.drop k)))) (fun v7 v8 => t.size - (intOf v8).toNat)
  case atStart => exact ⟨0, 0, rfl, rfl, by omega, by omega, by omega, Lib.hid ⟨0, rfl, HV.out⟩⟩
  case round =>
    obtain ⟨k, u, rfl, rfl, hk, hu0, hu1, hh⟩ := hrel
    by_cases hlt : (k : Int) < (t.size : Int)
    · have hk' : k < t.size := by omega
      have hdrop : l.drop k = t[k] :: l.drop (k + 1) := by
        rw [List.drop_eq_getElem_cons (by omega)]
        have := Lib.data_getElem? t k hk'
        rw [← HL.out, List.getElem?_eq_getElem (by omega)] at this
        rw [Option.some.inj this]
      have h2' := hh.out
      rw [hdrop] at h2'
      clear hh
      have hh := Lib.hid h2'
      clear h2' hdrop
      obtain ⟨c, hc⟩ : ∃ c, c = t[k] := ⟨_, rfl⟩
      rw [← hc] at hh
      have hcv : ((t[k].toNat : Nat) : Int) = ((c.toNat : Nat) : Int) := by rw [hc]
      have hcs := c.toNat_lt
      clear hc
      have D0 := Lib.hid (fun W => digit27 ((c.toNat : Nat) : Int) (by omega) (by omega) W)
      by_cases hn : dig c.toNat = 99
      · rw [dI_none hn] at D0
        have R : Hid (0 = V) := Lib.hid (by
          obtain ⟨acc, _, h⟩ := hh.out
          rw [h, pu_bad (by omega), piV_bad])
        clear hh hn
        go_wp2_with (go_at_call 27; refine (D0.out _).mono ?_; rintro e w' ⟨rfl, hw'⟩; have hw' := hw'.symm; subst hw')
        all_goals go_ret
        all_goals exact ⟨ret_i64 R.out, rfl⟩
      · rw [dI_some hn] at D0
        obtain ⟨d, hd⟩ : ∃ d, d = dig c.toNat := ⟨_, rfl⟩
        rw [← hd] at D0
        obtain ⟨D, hD⟩ : ∃ D : Int, D = d := ⟨_, rfl⟩
        rw [← hD] at D0
        have hD0 : 0 ≤ D := by omega
        by_cases hbd : B ≤ D
        · have R : Hid (0 = V) := Lib.hid (by
            have hB := HBb.out
            obtain ⟨acc, _, h⟩ := hh.out
            rw [h, pu_bad (by omega), piV_bad])
          clear hh hn hd hD
          go_wp2_with (go_at_call 27; refine (D0.out _).mono ?_; rintro e w' ⟨rfl, hw'⟩; have hw' := hw'.symm; subst hw')
          all_goals go_ret
          all_goals exact ⟨ret_i64 R.out, rfl⟩
        · have hDb : D < B := by omega
          obtain ⟨q, hq⟩ : ∃ q, (18446744073709551615 - D).tdiv B = q := ⟨_, rfl⟩
          have HQ := Lib.hid (quo_val (by omega) (show d < b by have := HBb.out; omega) h36 HBb.out hD hq)
          have hq0 : 0 ≤ q := by rw [HQ.out]; exact Int.natCast_nonneg _
          have hq1 : q < 18446744073709551616 := by
            rw [HQ.out]
            exact quo_lt d b
          by_cases ho : q < u
          · have R : Hid (9223372036854775807 = V) := Lib.hid (by
              have hB := HBb.out
              obtain ⟨acc, h1, h⟩ := hh.out
              rw [h, pu_over (by omega) (by
                rw [← hd]
                refine (quo_over (by omega) (by omega) h36).1 ?_
                have := HQ.out
                omega)]
              rfl)
            clear hh hn hd hD HQ
            go_wp2_with (go_at_call 27; refine (D0.out _).mono ?_; rintro e w' ⟨rfl, hw'⟩; have hw' := hw'.symm; subst hw')
            all_goals go_ret
            all_goals exact ⟨ret_i64 R.out, rfl⟩
          · obtain ⟨m1, hm1⟩ : ∃ m1, IntKind.u64.wrap (u * B) = m1 := ⟨_, rfl⟩
            have HN : Hid (∃ acc : Nat, m1 + D = acc ∧ m1 + D < 18446744073709551616 ∧ 0 ≤ m1 ∧ V = piV false (pu b acc (l.drop (k + 1)))) := Lib.hid (by
              have hB := HBb.out
              obtain ⟨acc, h1, h⟩ := hh.out
              have hno : ¬ 18446744073709551616 ≤ acc * b + d := by
                intro h9
                have := (quo_over (b := b) (d := d) (acc := acc) (by omega) (by omega) h36).2 h9
                have := HQ.out
                omega
              have hmv := mul_val (D := D) hB h1 hno hm1
              rw [hd] at hno
              rw [pu_next (by omega) hno, ← hd] at h
              exact ⟨acc * b + d, by rw [hmv, hD]; omega, by rw [hmv, hD]; omega, by rw [hmv]; omega, h⟩)
            have hr1 : m1 + D < 18446744073709551616 := by obtain ⟨_, _, h, _⟩ := HN.out; exact h
            have hr0 : 0 ≤ m1 := by obtain ⟨_, _, _, h, _⟩ := HN.out; exact h
            have HN2 : Hid (∃ acc : Nat, m1 + D = acc ∧ V = piV false (pu b acc (l.drop (k + 1)))) := Lib.hid (by obtain ⟨acc, h1, _, _, h2⟩ := HN.out; exact ⟨acc, h1, h2⟩)
            have hm1l : m1 < 18446744073709551616 := by omega
            clear hh hn hd hD HQ HN
            go_wp2_with (go_at_call 27; refine (D0.out _).mono ?_; rintro e w' ⟨rfl, hw'⟩; have hw' := hw'.symm; subst hw')
            go_round
            case rel => exact ⟨k + 1, m1 + D, rfl, by go_num, by omega, by omega, hr1, HN2⟩
            case measure => simp [intOf]; omega
    ·
      have HU : Hid (∃ acc : Nat, u = acc ∧ V = piV false (.ok acc)) := Lib.hid (by
        obtain ⟨acc, h1, h⟩ := hh.out
        rw [List.drop_eq_nil_of_le (by omega)] at h
        exact ⟨acc, h1, h⟩)
      by_cases hc : (9223372036854775808 : Int) ≤ u
      · have R : Hid (9223372036854775807 = V) := Lib.hid (by
          obtain ⟨acc, h1, h⟩ := HU.out
          rw [h]
          show _ = (if 9223372036854775808 ≤ acc then _ else _)
          rw [if_pos (by omega)])
        clear hh HU
        go_wp2
        go_ret
        exact ⟨ret_i64 R.out, rfl⟩
      · have R : Hid (u = V) := Lib.hid (by
          obtain ⟨acc, h1, h⟩ := HU.out
          rw [h]
          show _ = (if 9223372036854775808 ≤ acc then _ else _)
          rw [if_neg (by omega), h1])
        have hlt2 : u < 9223372036854775808 := by omega
        clear hh HU
        go_wp2
        go_ret
        exact ⟨ret_i64 R.out, rfl⟩

theorem parse16 (b : Nat) (h2 : 2 ≤ b) (h36 : b ≤ 36) (s : ByteArray) (hs : s.size ≤ 1073741824) (w : World) :
    Calls Tryd.prog 16 #[.string s, .int .i64 b] w fun e w' => e = .returned (.int .i64 (pi b s.data.toList)) ∧ w = w' := by
  by_cases h0 : s.size = 0
  · have hs0 : s = ⟨#[]⟩ := by
      apply ByteArray.ext
      exact Array.eq_empty_of_size_eq_zero h0
    subst hs0
    go_enter Tryd.func16, Tryd.ntmps16
    go_wp2
    go_ret
    exact ⟨rfl, rfl⟩
  have hpos : 0 < s.size := by omega
  obtain ⟨c0, r, hL⟩ : ∃ c0 r, s.data.toList = c0 :: r := by
    cases h : s.data.toList with
    | nil => exact absurd (by rw [Lib.size_eq, h]; rfl) h0
    | cons c0 r => exact ⟨c0, r, rfl⟩
  have hs0 : s[0]'hpos = c0 := by have := Lib.getD_at s 0 hpos; rw [hL] at this; exact this
  have htl : (s.extract 1 s.size).data.toList = r := by
    rw [Lib.extract_data, hL, List.drop_succ_cons, List.drop_zero, List.take_of_length_le (by have := Lib.size_eq s; rw [hL] at this; simp at this; omega)]
  have hi : ∀ x : UInt8, ((c0.toNat : Nat) : Int) = (x.toNat : Nat) → c0 = x := fun x h => Lib.byte_eq_of_toNat h
  by_cases h43 : c0 = 43
  · refine parse16_plus b h2 h36 s _ hs hpos (by rw [hs0, h43]; rfl) rfl _ (Lib.hid ?_) w
    rw [hL, htl, h43]
    rfl
  · by_cases h45 : c0 = 45
    · refine parse16_minus b h2 h36 s _ hs hpos (by rw [hs0, h45]; rfl) rfl _ (Lib.hid ?_) w
      rw [hL, htl, h45]
      rfl
    · refine parse16_none b h2 h36 s hs hpos (by rw [hs0]; exact fun h => h43 (Lib.byte_eq_of_toNat h)) (by rw [hs0]; exact fun h => h45 (Lib.byte_eq_of_toNat h)) _ (Lib.hid ?_) w
      rw [hL]
      show (if c0 = 43 then _ else if c0 = 45 then _ else _) = _
      rw [if_neg h43, if_neg h45]
end Go.Proofs.YtopaaaacbegmnaaDoor
