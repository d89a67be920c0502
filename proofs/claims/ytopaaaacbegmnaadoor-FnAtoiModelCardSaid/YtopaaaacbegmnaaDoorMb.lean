/-
  The walk of the law's own zzBaseOf (printed by genmb.py). Conditions: those in each theorem.
-/
import Derived.Test.YtopaaaacbegmnaaDoorMa
import Derived.Lib.Bytes
import Derived.Lib.ItoaWalk
namespace Go.Proofs.YtopaaaacbegmnaaDoor
set_option linter.unusedVariables false
open Go.RowKit Go.Lib

theorem basD_bad {v : Nat} {c : UInt8} {r : List UInt8} (h : ¬ (48 ≤ c.toNat ∧ c.toNat ≤ 57)) : basD v (c :: r) = 0 := by rw [basD, if_pos h]
theorem basD_big {v : Nat} {c : UInt8} {r : List UInt8} (h : 48 ≤ c.toNat ∧ c.toNat ≤ 57) (hb : 64 < v * 10 + (c.toNat - 48)) : basD v (c :: r) = 0 := by rw [basD, if_neg (fun x => x h), if_pos hb]
theorem basD_next {v : Nat} {c : UInt8} {r : List UInt8} (h : 48 ≤ c.toNat ∧ c.toNat ≤ 57) (hb : ¬ 64 < v * 10 + (c.toNat - 48)) : basD v (c :: r) = basD (v * 10 + (c.toNat - 48)) r := by rw [basD, if_neg (fun x => x h), if_neg hb]

set_option maxHeartbeats 1500000 in
set_option maxRecDepth 20000 in
theorem base17_plus (s t : ByteArray) (hs : s.size ≤ 1073741824) (hpos : 0 < s.size) (h0 : ((s[0].toNat : Nat) : Int) = 43) (ht : t = s.extract 1 s.size) (V : Int) (HV0 : Hid (V = ((basD 0 t.data.toList : Nat) : Int))) (w : World) :
    Calls Tryd.prog 17 #[.string s] w fun e w' => e = .returned (.int .i64 V) ∧ w = w' := by
  have hposi : (0 : Int) < (s.size : Int) := by omega
  have hone : (1 : Int) ≤ (s.size : Int) := by omega
  have hts : t.size ≤ 1073741824 := by rw [ht, ByteArray.size_extract]; omega
  have hsl : ∀ W, (Instr.slice 9 (.string s) (some (.int .i64 1)) none none).run Tryd.prog W = .ok (.string t) W := fun W => by
    rw [ht, run_slice_string_from_if W 9 s .i64 _ Tryd.underlying9, if_pos ⟨by omega, by omega⟩]
    rfl
  clear ht
  have sz : t.data.toList.length = t.size := by simp
  obtain ⟨l, hl⟩ : ∃ l, l = t.data.toList := ⟨_, rfl⟩
  have HV : Hid (V = ((basD 0 l : Nat) : Int)) := by rw [hl]; exact HV0
  rw [← hl] at sz
  have HL := Lib.hid hl
  clear hl HV0
  by_cases ht0 : (t.size : Int) = 0
  · have R : Hid (0 = V) := Lib.hid (by
      rw [HV.out, List.length_eq_zero_iff.1 (show l.length = 0 by omega)]
      rfl)
    clear HV
    go_enter Tryd.func17, Tryd.ntmps17
    go_wp2
    go_ret
    exact ⟨ret_i64 R.out, rfl⟩
  have hbz : ((t.size : Int) == 0) = false := by rw [beq_eq_false_iff_ne]; exact ht0
  go_enter Tryd.func17, Tryd.ntmps17
  go_wp2
  go_loop [3, 4] (fun v5 v6 => ∃ (k v : Nat), v5 = .int .i64 v ∧ v6 = .int .i64 k ∧ (k : Int) ≤ (t.size : Int) ∧ (v : Int) ≤ 64 ∧ Hid (V = ((basD v (l.drop k) : Nat) : Int))) (fun v5 v6 => t.size - (intOf v6).toNat)
  case atStart => exact ⟨0, 0, rfl, rfl, by omega, by omega, HV⟩
  case round =>
    obtain ⟨k, v, rfl, rfl, hk, hv64, hh⟩ := hrel
    by_cases hlt : (k : Int) < (t.size : Int)
    · have hk' : k < t.size := by omega
      have hdrop : l.drop k = t[k] :: l.drop (k + 1) := by
        rw [List.drop_eq_getElem_cons (by omega)]
        have := Lib.data_getElem? t k hk'
        rw [← HL.out, List.getElem?_eq_getElem (by omega)] at this
        rw [Option.some.inj this]
      have h2' := hh.out
      rw [hdrop] at h2'
      clear hh
      have hh := Lib.hid h2'
      clear h2' hdrop
      obtain ⟨c, hc⟩ : ∃ c, c = t[k] := ⟨_, rfl⟩
      rw [← hc] at hh
      have hcv : ((t[k].toNat : Nat) : Int) = ((c.toNat : Nat) : Int) := by rw [hc]
      have hcs : ((c.toNat : Nat) : Int) < 256 := by have := c.toNat_lt; omega
      clear hc
      by_cases hd : (48 : Int) ≤ ((c.toNat : Nat) : Int) ∧ ((c.toNat : Nat) : Int) ≤ 57
      · obtain ⟨i1, i2⟩ := hd
        by_cases hb : (64 : Int) < (v : Int) * 10 + (((c.toNat : Nat) : Int) - 48)
        · have R : Hid (0 = V) := Lib.hid (by rw [hh.out, basD_big (by omega) (by omega)]; rfl)
          clear hh
          go_wp2
          all_goals go_ret
          all_goals exact ⟨ret_i64 R.out, rfl⟩
        · have HN : Hid (V = ((basD (v * 10 + (c.toNat - 48)) (l.drop (k + 1)) : Nat) : Int)) := Lib.hid (by rw [hh.out, basD_next (by omega) (by omega)])
          have hnv : (v : Int) * 10 + (((c.toNat : Nat) : Int) - 48) ≤ 64 := by omega
          clear hh
          go_wp2
          go_round
          case rel => exact ⟨k + 1, v * 10 + (c.toNat - 48), by congr 1; omega, by go_num, by omega, by omega, HN⟩
          case measure => simp [intOf]; omega
      · have R : Hid (0 = V) := Lib.hid (by rw [hh.out, basD_bad (by omega)]; rfl)
        clear hh
        by_cases hd48 : (48 : Int) ≤ ((c.toNat : Nat) : Int)
        · have hd57 : (57 : Int) < ((c.toNat : Nat) : Int) := by omega
          clear hd
          go_wp2
          all_goals go_ret
          all_goals exact ⟨ret_i64 R.out, rfl⟩
        · clear hd
          go_wp2
          all_goals go_ret
          all_goals exact ⟨ret_i64 R.out, rfl⟩
    · have HU : Hid (V = (if v < 2 then 0 else (v : Int))) := Lib.hid (by
        rw [hh.out, List.drop_eq_nil_of_le (by omega)]
        show (((if v < 2 then 0 else v) : Nat) : Int) = _
        split <;> rfl)
      by_cases h2 : (v : Int) < 2
      · have R : Hid (0 = V) := Lib.hid (by rw [HU.out, if_pos (by omega)])
        clear hh HU
        go_wp2
        go_ret
        exact ⟨ret_i64 R.out, rfl⟩
      · have R : Hid ((v : Int) = V) := Lib.hid (by rw [HU.out, if_neg (by omega)])
        clear hh HU
        go_wp2
        go_ret
        exact ⟨ret_i64 R.out, rfl⟩

set_option maxHeartbeats 1500000 in
set_option maxRecDepth 20000 in
theorem base17_none (t : ByteArray) (hts : t.size ≤ 1073741824) (hpos : 0 < t.size) (n1 : ¬ ((t[0].toNat : Nat) : Int) = 43) (n2 : ¬ ((t[0].toNat : Nat) : Int) = 45) (V : Int) (HV0 : Hid (V = ((basD 0 t.data.toList : Nat) : Int))) (w : World) :
    Calls Tryd.prog 17 #[.string t] w fun e w' => e = .returned (.int .i64 V) ∧ w = w' := by
  have hposi : (0 : Int) < (t.size : Int) := by omega
  have z43 : (((t[0].toNat : Nat) : Int) == 43) = false := by rw [beq_eq_false_iff_ne]; exact n1
  have z45 : (((t[0].toNat : Nat) : Int) == 45) = false := by rw [beq_eq_false_iff_ne]; exact n2
  have sz : t.data.toList.length = t.size := by simp
  obtain ⟨l, hl⟩ : ∃ l, l = t.data.toList := ⟨_, rfl⟩
  have HV : Hid (V = ((basD 0 l : Nat) : Int)) := by rw [hl]; exact HV0
  rw [← hl] at sz
  have HL := Lib.hid hl
  clear hl HV0
  have ht0 : ¬ (t.size : Int) = 0 := by omega
  have hbz : ((t.size : Int) == 0) = false := by rw [beq_eq_false_iff_ne]; exact ht0
  go_enter Tryd.func17, Tryd.ntmps17
  go_wp2
  go_loop [3, 4] (fun v5 v6 => ∃ (k v : Nat), v5 = .int .i64 v ∧ v6 = .int .i64 k ∧ (k : Int) ≤ (t.size : Int) ∧ (v : Int) ≤ 64 ∧ Hid (V = ((basD v (l.drop k) : Nat) : Int))) (fun v5 v6 => t.size - (intOf v6).toNat)
  case atStart => exact ⟨0, 0, rfl, rfl, by omega, by omega, HV⟩
  case round =>
    obtain ⟨k, v, rfl, rfl, hk, hv64, hh⟩ := hrel
    by_cases hlt : (k : Int) < (t.size : Int)
    · have hk' : k < t.size := by omega
      have hdrop : l.drop k = t[k] :: l.drop (k + 1) := by
        rw [List.drop_eq_getElem_cons (by omega)]
        have := Lib.data_getElem? t k hk'
        rw [← HL.out, List.getElem?_eq_getElem (by omega)] at this
        rw [Option.some.inj this]
      have h2' := hh.out
      rw [hdrop] at h2'
      clear hh
      have hh := Lib.hid h2'
      clear h2' hdrop
      obtain ⟨c, hc⟩ : ∃ c, c = t[k] := ⟨_, rfl⟩
      rw [← hc] at hh
      have hcv : ((t[k].toNat : Nat) : Int) = ((c.toNat : Nat) : Int) := by rw [hc]
      have hcs : ((c.toNat : Nat) : Int) < 256 := by have := c.toNat_lt; omega
      clear hc
      by_cases hd : (48 : Int) ≤ ((c.toNat : Nat) : Int) ∧ ((c.toNat : Nat) : Int) ≤ 57
      · obtain ⟨i1, i2⟩ := hd
        by_cases hb : (64 : Int) < (v : Int) * 10 + (((c.toNat : Nat) : Int) - 48)
        · have R : Hid (0 = V) := Lib.hid (by rw [hh.out, basD_big (by omega) (by omega)]; rfl)
          clear hh
          go_wp2
          all_goals go_ret
          all_goals exact ⟨ret_i64 R.out, rfl⟩
        · have HN : Hid (V = ((basD (v * 10 + (c.toNat - 48)) (l.drop (k + 1)) : Nat) : Int)) := Lib.hid (by rw [hh.out, basD_next (by omega) (by omega)])
          have hnv : (v : Int) * 10 + (((c.toNat : Nat) : Int) - 48) ≤ 64 := by omega
          clear hh
          go_wp2
          go_round
          case rel => exact ⟨k + 1, v * 10 + (c.toNat - 48), by congr 1; omega, by go_num, by omega, by omega, HN⟩
          case measure => simp [intOf]; omega
      · have R : Hid (0 = V) := Lib.hid (by rw [hh.out, basD_bad (by omega)]; rfl)
        clear hh
        by_cases hd48 : (48 : Int) ≤ ((c.toNat : Nat) : Int)
        · have hd57 : (57 : Int) < ((c.toNat : Nat) : Int) := by omega
          clear hd
          go_wp2
          all_goals go_ret
          all_goals exact ⟨ret_i64 R.out, rfl⟩
        · clear hd
          go_wp2
          all_goals go_ret
          all_goals exact ⟨ret_i64 R.out, rfl⟩
    · have HU : Hid (V = (if v < 2 then 0 else (v : Int))) := Lib.hid (by
        rw [hh.out, List.drop_eq_nil_of_le (by omega)]
        show (((if v < 2 then 0 else v) : Nat) : Int) = _
        split <;> rfl)
      by_cases h2 : (v : Int) < 2
      · have R : Hid (0 = V) := Lib.hid (by rw [HU.out, if_pos (by omega)])
        clear hh HU
        go_wp2
        go_ret
        exact ⟨ret_i64 R.out, rfl⟩
      · have R : Hid ((v : Int) = V) := Lib.hid (by rw [HU.out, if_neg (by omega)])
        clear hh HU
        go_wp2
        go_ret
        exact ⟨ret_i64 R.out, rfl⟩

theorem base17 (s : ByteArray) (hs : s.size ≤ 1073741824) (w : World) :
    Calls Tryd.prog 17 #[.string s] w fun e w' => e = .returned (.int .i64 ((bas s.data.toList : Nat) : Int)) ∧ w = w' := by
  by_cases h0 : s.size = 0
  · have hs0 : s = ⟨#[]⟩ := by
      apply ByteArray.ext
      exact Array.eq_empty_of_size_eq_zero h0
    subst hs0
    go_enter Tryd.func17, Tryd.ntmps17
    go_wp2
    go_ret
    exact ⟨rfl, rfl⟩
  have hpos : 0 < s.size := by omega
  obtain ⟨c0, r, hL⟩ : ∃ c0 r, s.data.toList = c0 :: r := by
    cases h : s.data.toList with
    | nil => exact absurd (by rw [Lib.size_eq, h]; rfl) h0
    | cons c0 r => exact ⟨c0, r, rfl⟩
  have hs0 : s[0]'hpos = c0 := by have := Lib.getD_at s 0 hpos; rw [hL] at this; exact this
  have htl : (s.extract 1 s.size).data.toList = r := by
    rw [Lib.extract_data, hL, List.drop_succ_cons, List.drop_zero, List.take_of_length_le (by have := Lib.size_eq s; rw [hL] at this; simp at this; omega)]
  by_cases h43 : c0 = 43
  · refine base17_plus s _ hs hpos (by rw [hs0, h43]; rfl) rfl _ (Lib.hid ?_) w
    rw [hL, htl, h43]
    rfl
  · by_cases h45 : c0 = 45
    · rw [hL, h45, show bas (45 :: r) = 0 from rfl]
      have hi : ((s[0].toNat : Nat) : Int) = 45 := by rw [hs0, h45]; rfl
      have hposi : (0 : Int) < (s.size : Int) := by omega
      clear hs0 hL htl h43
      go_enter Tryd.func17, Tryd.ntmps17
      go_wp2
      go_ret
      exact ⟨rfl, rfl⟩
    · refine base17_none s hs hpos (by rw [hs0]; exact fun h => h43 (Lib.byte_eq_of_toNat h)) (by rw [hs0]; exact fun h => h45 (Lib.byte_eq_of_toNat h)) _ (Lib.hid ?_) w
      rw [hL]
      show (((if c0 = 43 then _ else if c0 = 45 then _ else _) : Nat) : Int) = _
      rw [if_neg h43, if_neg h45]
end Go.Proofs.YtopaaaacbegmnaaDoor
