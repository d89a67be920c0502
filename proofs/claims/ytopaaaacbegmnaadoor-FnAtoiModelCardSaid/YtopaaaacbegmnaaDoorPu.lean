/-
  The walk of internal/strconv.ParseUint at 64 bits, at every base from 2 to 36 (printed by genpu.py). Conditions: those in each theorem.
-/
import Derived.Test.YtopaaaacbegmnaaDoorProg
import Derived.Test.YtopaaaacbegmnaaDoorP1
import Derived.Test.YtopaaaacbegmnaaDoorShelf
import Derived.Lib.Strings
import Derived.Lib.Walk
import Derived.Lib.ConvBytes
import Derived.Lib.AtoiAllMem
import Derived.Lib.Hide
import Derived.Laws.Strings3
import Derived.Laws.Closers25
import Derived.Laws.Closers25b
import Derived.WalkKit
import Derived.BigCall
import Derived.BigGuard
namespace Go.Proofs.YtopaaaacbegmnaaDoor
set_option linter.unusedVariables false
open Go.Shelf Go.RowKit Go.Lib

theorem lower_all : (List.range 256).all (fun c => decide (bits .or .u8 (c : Int) 32 = ((c ||| 32 : Nat) : Int))) = true := by kernel_rfl
theorem dig_all : (List.range 256).all (fun c => decide ((48 ≤ c ∧ c ≤ 57 → dig c = c - 48) ∧ (¬ (48 ≤ c ∧ c ≤ 57) → 97 ≤ c ||| 32 → c ||| 32 ≤ 122 → dig c = (c ||| 32) - 87) ∧ (¬ (48 ≤ c ∧ c ≤ 57) → ¬ (97 ≤ c ||| 32 ∧ c ||| 32 ≤ 122) → dig c = 99) ∧ c ||| 32 < 256 ∧ (c = 95 → c ||| 32 = 127))) = true := by kernel_rfl
theorem dig_of (c : UInt8) : (48 ≤ c.toNat ∧ c.toNat ≤ 57 → dig c.toNat = c.toNat - 48) ∧ (¬ (48 ≤ c.toNat ∧ c.toNat ≤ 57) → 97 ≤ c.toNat ||| 32 → c.toNat ||| 32 ≤ 122 → dig c.toNat = (c.toNat ||| 32) - 87) ∧ (¬ (48 ≤ c.toNat ∧ c.toNat ≤ 57) → ¬ (97 ≤ c.toNat ||| 32 ∧ c.toNat ||| 32 ≤ 122) → dig c.toNat = 99) ∧ c.toNat ||| 32 < 256 ∧ (c.toNat = 95 → c.toNat ||| 32 = 127) :=
  of_decide_eq_true (List.all_eq_true.1 dig_all c.toNat (List.mem_range.2 (UInt8.toNat_lt c)))

theorem lower53 (c : UInt8) (w : World) : Calls Tryd.prog 53 #[.int .u8 ((c.toNat : Nat) : Int)] w fun e w' => e = .returned (.int .u8 ((c.toNat ||| 32 : Nat) : Int)) ∧ w' = w := by
  have h : bits .or .u8 ((c.toNat : Nat) : Int) 32 = ((c.toNat ||| 32 : Nat) : Int) := of_decide_eq_true (List.all_eq_true.1 lower_all c.toNat (List.mem_range.2 (UInt8.toNat_lt c)))
  rw [← h]
  generalize ((c.toNat : Nat) : Int) = x
  clear h
  go_enter Tryd.func53, Tryd.ntmps53
  go_wp2
  go_ret
  exact ⟨rfl, rfl⟩

theorem lower95 (w : World) : Calls Tryd.prog 53 #[.int .u8 95] w fun e w' => e = .returned (.int .u8 127) ∧ w' = w := lower53 95 w

/-- what ParseUint hands back -/
def uTup : PE → Value
  | .ok u => .tuple #[.int .u64 u, .nilIface]
  | .bad => .tuple #[.int .u64 0, .iface 82 (.int .i64 2)]
  | .over => .tuple #[.int .u64 18446744073709551615, .iface 82 (.int .i64 1)]
theorem pu_bad {b acc : Nat} {c : UInt8} {r : List UInt8} (h : b ≤ dig c.toNat) : pu b acc (c :: r) = .bad := by rw [pu, if_pos h]
theorem pu_over {b acc : Nat} {c : UInt8} {r : List UInt8} (h : ¬ b ≤ dig c.toNat) (h2 : 18446744073709551616 ≤ acc * b + dig c.toNat) : pu b acc (c :: r) = .over := by rw [pu, if_neg h, if_pos h2]
theorem pu_next {b acc : Nat} {c : UInt8} {r : List UInt8} (h : ¬ b ≤ dig c.toNat) (h2 : ¬ 18446744073709551616 ≤ acc * b + dig c.toNat) : pu b acc (c :: r) = pu b (acc * b + dig c.toNat) r := by rw [pu, if_neg h, if_neg h2]
theorem ret_tup {p q : PE} (h : p = q) : Ending.returned (uTup p) = .returned (uTup q) := by rw [h]

set_option maxHeartbeats 32000000 in
set_option maxRecDepth 100000 in
theorem uint43_ten (t : ByteArray) (hne : t.size ≠ 0) (hmax : t.size ≤ 1073741824) (w : World) :
    Calls Tryd.prog 43 #[.string t, .int .i64 10, .int .i64 64] w fun e w' => e = .returned (uTup (pu 10 0 t.data.toList)) ∧ w' = Lib.bytesWorld w 5 t := by
  have mixed : Tryd.prog.follows .mixedOrders = true := by kernel_rfl
  have hemp : t.toList.isEmpty = false := by
    rw [← decide_eq_emptyBytes]
    exact decide_eq_false (fun h => hne (by rw [h]; rfl))
  have hcv := Lib.run_convert_string_bytes (P := Tryd.prog) w 9 26 5 t (u := .string) Tryd.underlying9 Tryd.underlying26 Tryd.underlying5
  have hB : ∀ j, j < t.size → (Lib.bytesWorld w 5 t).cell? ⟨w.heap.size, j, none⟩ = some (.int .u8 (t.data.toList.getD j 0).toNat) := fun j hj => Lib.bytesWorld_cell w 5 t j hj
  obtain ⟨W1, hW1⟩ : ∃ W1, W1 = Lib.bytesWorld w 5 t := ⟨_, rfl⟩
  rw [← hW1] at hcv hB ⊢
  clear hW1
  obtain ⟨bs, hL⟩ : ∃ bs, bs = t.data.toList := ⟨_, rfl⟩
  have hLn : bs.length = t.size := by rw [hL, Lib.size_eq]
  rw [← hL] at hB ⊢
  clear hL
  have hmv : IntKind.u64.wrap (IntKind.u64.wrap 18446744073709551616 - 1) = 18446744073709551615 := by
    rw [IntKind.wrap_u64, IntKind.wrap_u64]
    decide
  go_enter Tryd.func43, Tryd.ntmps43
  go_wp2
  go_loop [12, 13, 101] (fun vu vn vi => ∃ (k acc : Nat) (a : Int), vu = .bool false ∧ vn = .int .u64 a ∧ vi = .int .i64 k ∧ k ≤ t.size ∧ Hid (a = (acc : Int) ∧ acc < 18446744073709551616 ∧ pu 10 0 bs = pu 10 acc (bs.drop k)))
    (fun _ _ vi => t.size - (RowKit.intOf vi).toNat)
  case atStart => exact ⟨0, 0, 0, rfl, rfl, rfl, by omega, rfl, by omega, rfl⟩
  case round =>
    obtain ⟨k, acc, a, rfl, rfl, rfl, hk, hh⟩ := hrel
    obtain ⟨ha, hacc, hdec⟩ := hh.out
    clear hh
    have a0 : 0 ≤ a := by omega
    have a1 : a < 18446744073709551616 := by omega
    by_cases hkn : k < t.size
    · have hc := hB k hkn
      have hdrop : bs.drop k = bs[k]'(by omega) :: bs.drop (k + 1) := List.drop_eq_getElem_cons (by omega)
      have hget : bs.getD k 0 = bs[k]'(by omega) := by simp [List.getD, List.getElem?_eq_getElem (show k < bs.length by omega)]
      rw [hdrop] at hdec
      rw [hget] at hc
      generalize bs[k]'(by omega) = c at hc hdec
      have hc256 : c.toNat < 256 := c.toNat_lt
      clear hB hdrop hget
      obtain ⟨D1, D2, D3, D4, D5⟩ := dig_of c
      have LW := Lib.hid (fun W => lower53 c W)
      obtain ⟨lw, hlw⟩ : ∃ lw, lw = c.toNat ||| 32 := ⟨_, rfl⟩
      rw [← hlw] at D2 D3 D4 D5 LW
      obtain ⟨dg, hdg⟩ : ∃ dg, dg = dig c.toNat := ⟨_, rfl⟩
      rw [← hdg] at D1 D2 D3
      have hlw1 : (lw : Int) < 256 := by omega
      have hlw0 : (0 : Int) ≤ (lw : Int) := by omega
      have hcutN : (1844674407370955162 : Int) ≤ a → 18446744073709551616 ≤ acc * 10 + dig c.toNat := fun h => by omega
      have hh2 : Hid (a = (acc : Int) ∧ dg = dig c.toNat) := Lib.hid ⟨ha, hdg⟩
      by_cases hdig : 48 ≤ c.toNat ∧ c.toNat ≤ 57
      · have hd0 : (48 : Int) ≤ ((c.toNat : Nat) : Int) := by omega
        have hd1 : ((c.toNat : Nat) : Int) ≤ 57 := by omega
        have hdd := D1 hdig
        have hdv : (dg : Int) = ((c.toNat : Nat) : Int) - 48 := by omega
        have hbd' : 10 ≤ dg → 10 ≤ dig c.toNat := fun h => by rw [← hdg]; exact h
        have hbn' : ¬ 10 ≤ dg → ¬ 10 ≤ dig c.toNat := fun h => by rw [← hdg]; exact h
        clear hdig
        clear D1 D2 D3 D5 hdg hlw
        by_cases hbd : 10 ≤ dg
        · have hF := pu_bad (b := 10) (acc := acc) (c := c) (r := bs.drop (k + 1)) (hbd' hbd)
          rw [hF] at hdec
          have hbi : (10 : Int) ≤ ((c.toNat : Nat) : Int) - 48 := by omega
          clear hF hacc ha hh2 hbd' hbn' hdv hcutN
          go_wp2_with (go_at_call 53; refine (LW.out _).mono ?_; rintro e w' ⟨rfl, hw'⟩; have hw' := hw'.symm; subst hw')
          all_goals go_ret2
          all_goals first | exact ⟨rfl, rfl⟩ | exact ⟨by rw [hdec]; rfl, rfl⟩
        · have hbi : ((c.toNat : Nat) : Int) - 48 < (10 : Int) := by omega
          by_cases hcut : (1844674407370955162 : Int) ≤ a
          · have hF := pu_over (b := 10) (acc := acc) (c := c) (r := bs.drop (k + 1)) (hbn' hbd) (hcutN hcut)
            rw [hF] at hdec
            clear hF hacc ha hh2 hbd' hbn' hdv hcutN
            go_wp2_with (go_at_call 53; refine (LW.out _).mono ?_; rintro e w' ⟨rfl, hw'⟩; have hw' := hw'.symm; subst hw')
            all_goals go_ret2
            all_goals first | exact ⟨rfl, rfl⟩ | exact ⟨by rw [hdec]; rfl, rfl⟩
          · have icut : a < (1844674407370955162 : Int) := by omega
            by_cases hov : 18446744073709551616 ≤ a * 10 + (((c.toNat : Nat) : Int) - 48)
            · have hF := pu_over (b := 10) (acc := acc) (c := c) (r := bs.drop (k + 1)) (hbn' hbd) (by have := hh2.out; omega)
              rw [hF] at hdec
              have hwr : IntKind.u64.wrap (a * 10 + (((c.toNat : Nat) : Int) - 48)) = a * 10 + (((c.toNat : Nat) : Int) - 48) - 18446744073709551616 := by
                rw [IntKind.wrap_u64]
                omega
              clear hF hacc ha hh2 hbd' hbn' hdv hcutN
              go_wp2_with (go_at_call 53; refine (LW.out _).mono ?_; rintro e w' ⟨rfl, hw'⟩; have hw' := hw'.symm; subst hw')
              all_goals go_ret2
              all_goals first | exact ⟨rfl, rfl⟩ | exact ⟨by rw [hdec]; rfl, rfl⟩
            · have hF := pu_next (b := 10) (acc := acc) (c := c) (r := bs.drop (k + 1)) (hbn' hbd) (by have := hh2.out; omega)
              have HN : Hid (a * 10 + (((c.toNat : Nat) : Int) - 48) = ((acc * 10 + dig c.toNat : Nat) : Int) ∧ acc * 10 + dig c.toNat < 18446744073709551616 ∧ pu 10 0 bs = pu 10 (acc * 10 + dig c.toNat) (bs.drop (k + 1))) := Lib.hid ⟨by have := hh2.out; omega, by have := hh2.out; omega, hdec.trans hF⟩
              have iov : a * 10 + (((c.toNat : Nat) : Int) - 48) < 18446744073709551616 := by omega
              have hwr : IntKind.u64.wrap (a * 10 + (((c.toNat : Nat) : Int) - 48)) = a * 10 + (((c.toNat : Nat) : Int) - 48) := by
                rw [IntKind.wrap_u64]
                omega
              clear hF hacc ha hh2 hbd' hbn' hdv hcutN hdec hov
              go_wp2_with (go_at_call 53; refine (LW.out _).mono ?_; rintro e w' ⟨rfl, hw'⟩; have hw' := hw'.symm; subst hw')
              all_goals refine ⟨⟨k + 1, acc * 10 + dig c.toNat, a * 10 + (((c.toNat : Nat) : Int) - 48), rfl, (by first | rfl | (congr 1; omega)), (by first | rfl | (congr 1; omega)), by omega, HN⟩, by simp [RowKit.intOf]; omega⟩
      · by_cases hlet : 97 ≤ lw ∧ lw ≤ 122
        · have hd0 : (97 : Int) ≤ (lw : Int) := by omega
          have hd1 : (lw : Int) ≤ 122 := by omega
          have n95 : ¬ ((c.toNat : Nat) : Int) = 95 := fun h => by have := D5 (by omega); omega
          have hdi : ¬ (48 ≤ ((c.toNat : Nat) : Int) ∧ ((c.toNat : Nat) : Int) ≤ 57) := by omega
          have hdd := D2 hdig hlet.1 hlet.2
          have hdv : (dg : Int) = (lw : Int) - 97 + 10 := by omega
          have hbd' : 10 ≤ dg → 10 ≤ dig c.toNat := fun h => by rw [← hdg]; exact h
          have hbn' : ¬ 10 ≤ dg → ¬ 10 ≤ dig c.toNat := fun h => by rw [← hdg]; exact h
          clear hdig hlet
          clear D1 D2 D3 D5 hdg hlw
          by_cases hbd : 10 ≤ dg
          · have hF := pu_bad (b := 10) (acc := acc) (c := c) (r := bs.drop (k + 1)) (hbd' hbd)
            rw [hF] at hdec
            have hbi : (10 : Int) ≤ (lw : Int) - 97 + 10 := by omega
            clear hF hacc ha hh2 hbd' hbn' hdv hcutN
            go_wp2_with (go_at_call 53; refine (LW.out _).mono ?_; rintro e w' ⟨rfl, hw'⟩; have hw' := hw'.symm; subst hw')
            all_goals go_ret2
            all_goals first | exact ⟨rfl, rfl⟩ | exact ⟨by rw [hdec]; rfl, rfl⟩
          · have hbi : (lw : Int) - 97 + 10 < (10 : Int) := by omega
            by_cases hcut : (1844674407370955162 : Int) ≤ a
            · have hF := pu_over (b := 10) (acc := acc) (c := c) (r := bs.drop (k + 1)) (hbn' hbd) (hcutN hcut)
              rw [hF] at hdec
              clear hF hacc ha hh2 hbd' hbn' hdv hcutN
              go_wp2_with (go_at_call 53; refine (LW.out _).mono ?_; rintro e w' ⟨rfl, hw'⟩; have hw' := hw'.symm; subst hw')
              all_goals go_ret2
              all_goals first | exact ⟨rfl, rfl⟩ | exact ⟨by rw [hdec]; rfl, rfl⟩
            · have icut : a < (1844674407370955162 : Int) := by omega
              by_cases hov : 18446744073709551616 ≤ a * 10 + ((lw : Int) - 97 + 10)
              · have hF := pu_over (b := 10) (acc := acc) (c := c) (r := bs.drop (k + 1)) (hbn' hbd) (by have := hh2.out; omega)
                rw [hF] at hdec
                have hwr : IntKind.u64.wrap (a * 10 + ((lw : Int) - 97 + 10)) = a * 10 + ((lw : Int) - 97 + 10) - 18446744073709551616 := by
                  rw [IntKind.wrap_u64]
                  omega
                clear hF hacc ha hh2 hbd' hbn' hdv hcutN
                go_wp2_with (go_at_call 53; refine (LW.out _).mono ?_; rintro e w' ⟨rfl, hw'⟩; have hw' := hw'.symm; subst hw')
                all_goals go_ret2
                all_goals first | exact ⟨rfl, rfl⟩ | exact ⟨by rw [hdec]; rfl, rfl⟩
              · have hF := pu_next (b := 10) (acc := acc) (c := c) (r := bs.drop (k + 1)) (hbn' hbd) (by have := hh2.out; omega)
                have HN : Hid (a * 10 + ((lw : Int) - 97 + 10) = ((acc * 10 + dig c.toNat : Nat) : Int) ∧ acc * 10 + dig c.toNat < 18446744073709551616 ∧ pu 10 0 bs = pu 10 (acc * 10 + dig c.toNat) (bs.drop (k + 1))) := Lib.hid ⟨by have := hh2.out; omega, by have := hh2.out; omega, hdec.trans hF⟩
                have iov : a * 10 + ((lw : Int) - 97 + 10) < 18446744073709551616 := by omega
                have hwr : IntKind.u64.wrap (a * 10 + ((lw : Int) - 97 + 10)) = a * 10 + ((lw : Int) - 97 + 10) := by
                  rw [IntKind.wrap_u64]
                  omega
                clear hF hacc ha hh2 hbd' hbn' hdv hcutN hdec hov
                go_wp2_with (go_at_call 53; refine (LW.out _).mono ?_; rintro e w' ⟨rfl, hw'⟩; have hw' := hw'.symm; subst hw')
                all_goals refine ⟨⟨k + 1, acc * 10 + dig c.toNat, a * 10 + ((lw : Int) - 97 + 10), rfl, (by first | rfl | (congr 1; omega)), (by first | rfl | (congr 1; omega)), by omega, HN⟩, by simp [RowKit.intOf]; omega⟩
        · have hdd := D3 hdig hlet
          have hF := pu_bad (b := 10) (acc := acc) (c := c) (r := bs.drop (k + 1)) (by rw [← hdg]; omega)
          rw [hF] at hdec
          have hdi : ¬ (48 ≤ ((c.toNat : Nat) : Int) ∧ ((c.toNat : Nat) : Int) ≤ 57) := by omega
          have hli : ¬ (97 ≤ (lw : Int) ∧ (lw : Int) ≤ 122) := by omega
          clear hF hacc ha hh2 D1 D2 D3 D5 hdg hlw hdd hdig hlet hcutN
          go_wp2_with (first | (go_at_call 53; refine (LW.out _).mono ?_; rintro e w' ⟨rfl, hw'⟩; have hw' := hw'.symm; subst hw') | (go_at_call 53; refine (lower95 _).mono ?_; rintro e w' ⟨rfl, hw'⟩; have hw' := hw'.symm; subst hw'))
          all_goals go_ret2
          all_goals first | exact ⟨rfl, rfl⟩ | exact ⟨by rw [hdec]; rfl, rfl⟩
    · have hkk : k = t.size := by omega
      subst hkk
      have hF : pu 10 acc (bs.drop t.size) = .ok acc := by rw [List.drop_eq_nil_of_le (by omega)]; rfl
      rw [hF] at hdec
      subst ha
      clear hacc hF a0 a1
      go_wp2
      all_goals go_ret2
      all_goals first | exact ⟨rfl, rfl⟩ | exact ⟨by rw [hdec]; rfl, rfl⟩

set_option maxHeartbeats 32000000 in
set_option maxRecDepth 100000 in
theorem uint43_hex (t : ByteArray) (hne : t.size ≠ 0) (hmax : t.size ≤ 1073741824) (w : World) :
    Calls Tryd.prog 43 #[.string t, .int .i64 16, .int .i64 64] w fun e w' => e = .returned (uTup (pu 16 0 t.data.toList)) ∧ w' = Lib.bytesWorld w 5 t := by
  have mixed : Tryd.prog.follows .mixedOrders = true := by kernel_rfl
  have hemp : t.toList.isEmpty = false := by
    rw [← decide_eq_emptyBytes]
    exact decide_eq_false (fun h => hne (by rw [h]; rfl))
  have hcv := Lib.run_convert_string_bytes (P := Tryd.prog) w 9 26 5 t (u := .string) Tryd.underlying9 Tryd.underlying26 Tryd.underlying5
  have hB : ∀ j, j < t.size → (Lib.bytesWorld w 5 t).cell? ⟨w.heap.size, j, none⟩ = some (.int .u8 (t.data.toList.getD j 0).toNat) := fun j hj => Lib.bytesWorld_cell w 5 t j hj
  obtain ⟨W1, hW1⟩ : ∃ W1, W1 = Lib.bytesWorld w 5 t := ⟨_, rfl⟩
  rw [← hW1] at hcv hB ⊢
  clear hW1
  obtain ⟨bs, hL⟩ : ∃ bs, bs = t.data.toList := ⟨_, rfl⟩
  have hLn : bs.length = t.size := by rw [hL, Lib.size_eq]
  rw [← hL] at hB ⊢
  clear hL
  have hmv : IntKind.u64.wrap (IntKind.u64.wrap 18446744073709551616 - 1) = 18446744073709551615 := by
    rw [IntKind.wrap_u64, IntKind.wrap_u64]
    decide
  go_enter Tryd.func43, Tryd.ntmps43
  go_wp2
  go_loop [12, 13, 101] (fun vu vn vi => ∃ (k acc : Nat) (a : Int), vu = .bool false ∧ vn = .int .u64 a ∧ vi = .int .i64 k ∧ k ≤ t.size ∧ Hid (a = (acc : Int) ∧ acc < 18446744073709551616 ∧ pu 16 0 bs = pu 16 acc (bs.drop k)))
    (fun _ _ vi => t.size - (RowKit.intOf vi).toNat)
  case atStart => exact ⟨0, 0, 0, rfl, rfl, rfl, by omega, rfl, by omega, rfl⟩
  case round =>
    obtain ⟨k, acc, a, rfl, rfl, rfl, hk, hh⟩ := hrel
    obtain ⟨ha, hacc, hdec⟩ := hh.out
    clear hh
    have a0 : 0 ≤ a := by omega
    have a1 : a < 18446744073709551616 := by omega
    by_cases hkn : k < t.size
    · have hc := hB k hkn
      have hdrop : bs.drop k = bs[k]'(by omega) :: bs.drop (k + 1) := List.drop_eq_getElem_cons (by omega)
      have hget : bs.getD k 0 = bs[k]'(by omega) := by simp [List.getD, List.getElem?_eq_getElem (show k < bs.length by omega)]
      rw [hdrop] at hdec
      rw [hget] at hc
      generalize bs[k]'(by omega) = c at hc hdec
      have hc256 : c.toNat < 256 := c.toNat_lt
      clear hB hdrop hget
      obtain ⟨D1, D2, D3, D4, D5⟩ := dig_of c
      have LW := Lib.hid (fun W => lower53 c W)
      obtain ⟨lw, hlw⟩ : ∃ lw, lw = c.toNat ||| 32 := ⟨_, rfl⟩
      rw [← hlw] at D2 D3 D4 D5 LW
      obtain ⟨dg, hdg⟩ : ∃ dg, dg = dig c.toNat := ⟨_, rfl⟩
      rw [← hdg] at D1 D2 D3
      have hlw1 : (lw : Int) < 256 := by omega
      have hlw0 : (0 : Int) ≤ (lw : Int) := by omega
      have hcutN : (1152921504606846976 : Int) ≤ a → 18446744073709551616 ≤ acc * 16 + dig c.toNat := fun h => by omega
      have hh2 : Hid (a = (acc : Int) ∧ dg = dig c.toNat) := Lib.hid ⟨ha, hdg⟩
      by_cases hdig : 48 ≤ c.toNat ∧ c.toNat ≤ 57
      · have hd0 : (48 : Int) ≤ ((c.toNat : Nat) : Int) := by omega
        have hd1 : ((c.toNat : Nat) : Int) ≤ 57 := by omega
        have hdd := D1 hdig
        have hdv : (dg : Int) = ((c.toNat : Nat) : Int) - 48 := by omega
        have hbd' : 16 ≤ dg → 16 ≤ dig c.toNat := fun h => by rw [← hdg]; exact h
        have hbn' : ¬ 16 ≤ dg → ¬ 16 ≤ dig c.toNat := fun h => by rw [← hdg]; exact h
        clear hdig
        clear D1 D2 D3 D5 hdg hlw
        by_cases hbd : 16 ≤ dg
        · have hF := pu_bad (b := 16) (acc := acc) (c := c) (r := bs.drop (k + 1)) (hbd' hbd)
          rw [hF] at hdec
          have hbi : (16 : Int) ≤ ((c.toNat : Nat) : Int) - 48 := by omega
          clear hF hacc ha hh2 hbd' hbn' hdv hcutN
          go_wp2_with (go_at_call 53; refine (LW.out _).mono ?_; rintro e w' ⟨rfl, hw'⟩; have hw' := hw'.symm; subst hw')
          all_goals go_ret2
          all_goals first | exact ⟨rfl, rfl⟩ | exact ⟨by rw [hdec]; rfl, rfl⟩
        · have hbi : ((c.toNat : Nat) : Int) - 48 < (16 : Int) := by omega
          by_cases hcut : (1152921504606846976 : Int) ≤ a
          · have hF := pu_over (b := 16) (acc := acc) (c := c) (r := bs.drop (k + 1)) (hbn' hbd) (hcutN hcut)
            rw [hF] at hdec
            clear hF hacc ha hh2 hbd' hbn' hdv hcutN
            go_wp2_with (go_at_call 53; refine (LW.out _).mono ?_; rintro e w' ⟨rfl, hw'⟩; have hw' := hw'.symm; subst hw')
            all_goals go_ret2
            all_goals first | exact ⟨rfl, rfl⟩ | exact ⟨by rw [hdec]; rfl, rfl⟩
          · have icut : a < (1152921504606846976 : Int) := by omega
            by_cases hov : 18446744073709551616 ≤ a * 16 + (((c.toNat : Nat) : Int) - 48)
            · have hF := pu_over (b := 16) (acc := acc) (c := c) (r := bs.drop (k + 1)) (hbn' hbd) (by have := hh2.out; omega)
              rw [hF] at hdec
              have hwr : IntKind.u64.wrap (a * 16 + (((c.toNat : Nat) : Int) - 48)) = a * 16 + (((c.toNat : Nat) : Int) - 48) - 18446744073709551616 := by
                rw [IntKind.wrap_u64]
                omega
              clear hF hacc ha hh2 hbd' hbn' hdv hcutN
              go_wp2_with (go_at_call 53; refine (LW.out _).mono ?_; rintro e w' ⟨rfl, hw'⟩; have hw' := hw'.symm; subst hw')
              all_goals go_ret2
              all_goals first | exact ⟨rfl, rfl⟩ | exact ⟨by rw [hdec]; rfl, rfl⟩
            · have hF := pu_next (b := 16) (acc := acc) (c := c) (r := bs.drop (k + 1)) (hbn' hbd) (by have := hh2.out; omega)
              have HN : Hid (a * 16 + (((c.toNat : Nat) : Int) - 48) = ((acc * 16 + dig c.toNat : Nat) : Int) ∧ acc * 16 + dig c.toNat < 18446744073709551616 ∧ pu 16 0 bs = pu 16 (acc * 16 + dig c.toNat) (bs.drop (k + 1))) := Lib.hid ⟨by have := hh2.out; omega, by have := hh2.out; omega, hdec.trans hF⟩
              have iov : a * 16 + (((c.toNat : Nat) : Int) - 48) < 18446744073709551616 := by omega
              have hwr : IntKind.u64.wrap (a * 16 + (((c.toNat : Nat) : Int) - 48)) = a * 16 + (((c.toNat : Nat) : Int) - 48) := by
                rw [IntKind.wrap_u64]
                omega
              clear hF hacc ha hh2 hbd' hbn' hdv hcutN hdec hov
              go_wp2_with (go_at_call 53; refine (LW.out _).mono ?_; rintro e w' ⟨rfl, hw'⟩; have hw' := hw'.symm; subst hw')
              all_goals refine ⟨⟨k + 1, acc * 16 + dig c.toNat, a * 16 + (((c.toNat : Nat) : Int) - 48), rfl, (by first | rfl | (congr 1; omega)), (by first | rfl | (congr 1; omega)), by omega, HN⟩, by simp [RowKit.intOf]; omega⟩
      · by_cases hlet : 97 ≤ lw ∧ lw ≤ 122
        · have hd0 : (97 : Int) ≤ (lw : Int) := by omega
          have hd1 : (lw : Int) ≤ 122 := by omega
          have n95 : ¬ ((c.toNat : Nat) : Int) = 95 := fun h => by have := D5 (by omega); omega
          have hdi : ¬ (48 ≤ ((c.toNat : Nat) : Int) ∧ ((c.toNat : Nat) : Int) ≤ 57) := by omega
          have hdd := D2 hdig hlet.1 hlet.2
          have hdv : (dg : Int) = (lw : Int) - 97 + 10 := by omega
          have hbd' : 16 ≤ dg → 16 ≤ dig c.toNat := fun h => by rw [← hdg]; exact h
          have hbn' : ¬ 16 ≤ dg → ¬ 16 ≤ dig c.toNat := fun h => by rw [← hdg]; exact h
          clear hdig hlet
          clear D1 D2 D3 D5 hdg hlw
          by_cases hbd : 16 ≤ dg
          · have hF := pu_bad (b := 16) (acc := acc) (c := c) (r := bs.drop (k + 1)) (hbd' hbd)
            rw [hF] at hdec
            have hbi : (16 : Int) ≤ (lw : Int) - 97 + 10 := by omega
            clear hF hacc ha hh2 hbd' hbn' hdv hcutN
            go_wp2_with (go_at_call 53; refine (LW.out _).mono ?_; rintro e w' ⟨rfl, hw'⟩; have hw' := hw'.symm; subst hw')
            all_goals go_ret2
            all_goals first | exact ⟨rfl, rfl⟩ | exact ⟨by rw [hdec]; rfl, rfl⟩
          · have hbi : (lw : Int) - 97 + 10 < (16 : Int) := by omega
            by_cases hcut : (1152921504606846976 : Int) ≤ a
            · have hF := pu_over (b := 16) (acc := acc) (c := c) (r := bs.drop (k + 1)) (hbn' hbd) (hcutN hcut)
              rw [hF] at hdec
              clear hF hacc ha hh2 hbd' hbn' hdv hcutN
              go_wp2_with (go_at_call 53; refine (LW.out _).mono ?_; rintro e w' ⟨rfl, hw'⟩; have hw' := hw'.symm; subst hw')
              all_goals go_ret2
              all_goals first | exact ⟨rfl, rfl⟩ | exact ⟨by rw [hdec]; rfl, rfl⟩
            · have icut : a < (1152921504606846976 : Int) := by omega
              by_cases hov : 18446744073709551616 ≤ a * 16 + ((lw : Int) - 97 + 10)
              · have hF := pu_over (b := 16) (acc := acc) (c := c) (r := bs.drop (k + 1)) (hbn' hbd) (by have := hh2.out; omega)
                rw [hF] at hdec
                have hwr : IntKind.u64.wrap (a * 16 + ((lw : Int) - 97 + 10)) = a * 16 + ((lw : Int) - 97 + 10) - 18446744073709551616 := by
                  rw [IntKind.wrap_u64]
                  omega
                clear hF hacc ha hh2 hbd' hbn' hdv hcutN
                go_wp2_with (go_at_call 53; refine (LW.out _).mono ?_; rintro e w' ⟨rfl, hw'⟩; have hw' := hw'.symm; subst hw')
                all_goals go_ret2
                all_goals first | exact ⟨rfl, rfl⟩ | exact ⟨by rw [hdec]; rfl, rfl⟩
              · have hF := pu_next (b := 16) (acc := acc) (c := c) (r := bs.drop (k + 1)) (hbn' hbd) (by have := hh2.out; omega)
                have HN : Hid (a * 16 + ((lw : Int) - 97 + 10) = ((acc * 16 + dig c.toNat : Nat) : Int) ∧ acc * 16 + dig c.toNat < 18446744073709551616 ∧ pu 16 0 bs = pu 16 (acc * 16 + dig c.toNat) (bs.drop (k + 1))) := Lib.hid ⟨by have := hh2.out; omega, by have := hh2.out; omega, hdec.trans hF⟩
                have iov : a * 16 + ((lw : Int) - 97 + 10) < 18446744073709551616 := by omega
                have hwr : IntKind.u64.wrap (a * 16 + ((lw : Int) - 97 + 10)) = a * 16 + ((lw : Int) - 97 + 10) := by
                  rw [IntKind.wrap_u64]
                  omega
                clear hF hacc ha hh2 hbd' hbn' hdv hcutN hdec hov
                go_wp2_with (go_at_call 53; refine (LW.out _).mono ?_; rintro e w' ⟨rfl, hw'⟩; have hw' := hw'.symm; subst hw')
                all_goals refine ⟨⟨k + 1, acc * 16 + dig c.toNat, a * 16 + ((lw : Int) - 97 + 10), rfl, (by first | rfl | (congr 1; omega)), (by first | rfl | (congr 1; omega)), by omega, HN⟩, by simp [RowKit.intOf]; omega⟩
        · have hdd := D3 hdig hlet
          have hF := pu_bad (b := 16) (acc := acc) (c := c) (r := bs.drop (k + 1)) (by rw [← hdg]; omega)
          rw [hF] at hdec
          have hdi : ¬ (48 ≤ ((c.toNat : Nat) : Int) ∧ ((c.toNat : Nat) : Int) ≤ 57) := by omega
          have hli : ¬ (97 ≤ (lw : Int) ∧ (lw : Int) ≤ 122) := by omega
          clear hF hacc ha hh2 D1 D2 D3 D5 hdg hlw hdd hdig hlet hcutN
          go_wp2_with (first | (go_at_call 53; refine (LW.out _).mono ?_; rintro e w' ⟨rfl, hw'⟩; have hw' := hw'.symm; subst hw') | (go_at_call 53; refine (lower95 _).mono ?_; rintro e w' ⟨rfl, hw'⟩; have hw' := hw'.symm; subst hw'))
          all_goals go_ret2
          all_goals first | exact ⟨rfl, rfl⟩ | exact ⟨by rw [hdec]; rfl, rfl⟩
    · have hkk : k = t.size := by omega
      subst hkk
      have hF : pu 16 acc (bs.drop t.size) = .ok acc := by rw [List.drop_eq_nil_of_le (by omega)]; rfl
      rw [hF] at hdec
      subst ha
      clear hacc hF a0 a1
      go_wp2
      all_goals go_ret2
      all_goals first | exact ⟨rfl, rfl⟩ | exact ⟨by rw [hdec]; rfl, rfl⟩

set_option maxHeartbeats 32000000 in
set_option maxRecDepth 100000 in
theorem uint43_any (b : Nat) (h2 : 2 ≤ b) (h36 : b ≤ 36) (n10 : b ≠ 10) (n16 : b ≠ 16) (t : ByteArray) (hne : t.size ≠ 0) (hmax : t.size ≤ 1073741824) (w : World) :
    Calls Tryd.prog 43 #[.string t, .int .i64 b, .int .i64 64] w fun e w' => e = .returned (uTup (pu b 0 t.data.toList)) ∧ w' = Lib.bytesWorld w 5 t := by
  have mixed : Tryd.prog.follows .mixedOrders = true := by kernel_rfl
  have hemp : t.toList.isEmpty = false := by
    rw [← decide_eq_emptyBytes]
    exact decide_eq_false (fun h => hne (by rw [h]; rfl))
  have hcv := Lib.run_convert_string_bytes (P := Tryd.prog) w 9 26 5 t (u := .string) Tryd.underlying9 Tryd.underlying26 Tryd.underlying5
  have hB : ∀ j, j < t.size → (Lib.bytesWorld w 5 t).cell? ⟨w.heap.size, j, none⟩ = some (.int .u8 (t.data.toList.getD j 0).toNat) := fun j hj => Lib.bytesWorld_cell w 5 t j hj
  obtain ⟨W1, hW1⟩ : ∃ W1, W1 = Lib.bytesWorld w 5 t := ⟨_, rfl⟩
  rw [← hW1] at hcv hB ⊢
  clear hW1
  obtain ⟨bs, hL⟩ : ∃ bs, bs = t.data.toList := ⟨_, rfl⟩
  have hLn : bs.length = t.size := by rw [hL, Lib.size_eq]
  rw [← hL] at hB ⊢
  clear hL
  have hmv : IntKind.u64.wrap (IntKind.u64.wrap 18446744073709551616 - 1) = 18446744073709551615 := by
    rw [IntKind.wrap_u64, IntKind.wrap_u64]
    decide
  obtain ⟨q, hq⟩ : ∃ q : Nat, q = 18446744073709551615 / b := ⟨_, rfl⟩
  have hq1 : ∀ x : Nat, q < x ↔ 18446744073709551615 < x * b := fun x => by rw [hq]; exact Nat.div_lt_iff_lt_mul (by omega)
  have hqm : q ≤ 9223372036854775807 := by
    rw [hq]
    exact Nat.le_trans (Nat.div_le_div_left h2 (by omega)) (by decide)
  have hqi : (18446744073709551615 : Int).tdiv (b : Int) = (q : Int) := by
    rw [hq, Int.tdiv_eq_ediv_of_nonneg (by omega)]; rfl
  have ib2 : (2 : Int) ≤ (b : Int) := by omega
  have ib36 : (b : Int) ≤ 36 := by omega
  have ib10 : ¬ (b : Int) = 10 := by omega
  have ibz : ((b : Int) == 0) = false := by rw [beq_eq_false_iff_ne]; omega
  have ibt : ((b : Int) == 10) = false := by rw [beq_eq_false_iff_ne]; omega
  have ibh : ((b : Int) == 16) = false := by rw [beq_eq_false_iff_ne]; omega
  have ib16 : ¬ (b : Int) = 16 := by omega
  have iq0 : (0 : Int) ≤ (q : Int) := by omega
  have iqm : (q : Int) ≤ 9223372036854775807 := by omega
  have HQ1 := Lib.hid hq1
  clear hq hq1 h2 h36 n10 n16 hqm
  go_enter Tryd.func43, Tryd.ntmps43
  go_wp2
  go_loop [12, 13, 101] (fun vu vn vi => ∃ (k acc : Nat) (a : Int), vu = .bool false ∧ vn = .int .u64 a ∧ vi = .int .i64 k ∧ k ≤ t.size ∧ Hid (a = (acc : Int) ∧ acc < 18446744073709551616 ∧ pu b 0 bs = pu b acc (bs.drop k)))
    (fun _ _ vi => t.size - (RowKit.intOf vi).toNat)
  case atStart => exact ⟨0, 0, 0, rfl, rfl, rfl, by omega, rfl, by omega, rfl⟩
  case round =>
    obtain ⟨k, acc, a, rfl, rfl, rfl, hk, hh⟩ := hrel
    obtain ⟨ha, hacc, hdec⟩ := hh.out
    clear hh
    have a0 : 0 ≤ a := by omega
    have a1 : a < 18446744073709551616 := by omega
    by_cases hkn : k < t.size
    · have hc := hB k hkn
      have hdrop : bs.drop k = bs[k]'(by omega) :: bs.drop (k + 1) := List.drop_eq_getElem_cons (by omega)
      have hget : bs.getD k 0 = bs[k]'(by omega) := by simp [List.getD, List.getElem?_eq_getElem (show k < bs.length by omega)]
      rw [hdrop] at hdec
      rw [hget] at hc
      generalize bs[k]'(by omega) = c at hc hdec
      have hc256 : c.toNat < 256 := c.toNat_lt
      clear hB hdrop hget
      obtain ⟨D1, D2, D3, D4, D5⟩ := dig_of c
      have LW := Lib.hid (fun W => lower53 c W)
      obtain ⟨lw, hlw⟩ : ∃ lw, lw = c.toNat ||| 32 := ⟨_, rfl⟩
      rw [← hlw] at D2 D3 D4 D5 LW
      obtain ⟨dg, hdg⟩ : ∃ dg, dg = dig c.toNat := ⟨_, rfl⟩
      rw [← hdg] at D1 D2 D3
      have hlw1 : (lw : Int) < 256 := by omega
      have hlw0 : (0 : Int) ≤ (lw : Int) := by omega
      have hcutN : ((q : Int) + 1) ≤ a → 18446744073709551616 ≤ acc * b + dig c.toNat := fun h => by
        have := (HQ1.out acc).1 (by omega)
        omega
      obtain ⟨p, hp⟩ : ∃ p, p = a * (b : Int) := ⟨_, rfl⟩
      have hpe := hp.symm
      have hpN : p = ((acc * b : Nat) : Int) := by rw [hp, ha]; exact (Int.natCast_mul acc b).symm
      have hmulN : a < ((q : Int) + 1) → 0 ≤ p ∧ p < 18446744073709551616 := fun h => by
        have h1 : ¬ q < acc := by omega
        rw [HQ1.out acc] at h1
        omega
      have hh2 : Hid (p = ((acc * b : Nat) : Int) ∧ dg = dig c.toNat) := Lib.hid ⟨hpN, hdg⟩
      clear hp hpN
      by_cases hdig : 48 ≤ c.toNat ∧ c.toNat ≤ 57
      · have hd0 : (48 : Int) ≤ ((c.toNat : Nat) : Int) := by omega
        have hd1 : ((c.toNat : Nat) : Int) ≤ 57 := by omega
        have hdd := D1 hdig
        have hdv : (dg : Int) = ((c.toNat : Nat) : Int) - 48 := by omega
        have hbd' : b ≤ dg → b ≤ dig c.toNat := fun h => by rw [← hdg]; exact h
        have hbn' : ¬ b ≤ dg → ¬ b ≤ dig c.toNat := fun h => by rw [← hdg]; exact h
        clear hdig
        clear D1 D2 D3 D5 hdg hlw
        by_cases hbd : b ≤ dg
        · have hF := pu_bad (b := b) (acc := acc) (c := c) (r := bs.drop (k + 1)) (hbd' hbd)
          rw [hF] at hdec
          have hbi : (b : Int) ≤ ((c.toNat : Nat) : Int) - 48 := by omega
          clear hF hacc ha hh2 hbd' hbn' hdv hcutN hmulN
          go_wp2_with (go_at_call 53; refine (LW.out _).mono ?_; rintro e w' ⟨rfl, hw'⟩; have hw' := hw'.symm; subst hw')
          all_goals go_ret2
          all_goals first | exact ⟨rfl, rfl⟩ | exact ⟨by rw [hdec]; rfl, rfl⟩
        · have hbi : ((c.toNat : Nat) : Int) - 48 < (b : Int) := by omega
          by_cases hcut : ((q : Int) + 1 : Int) ≤ a
          · have hF := pu_over (b := b) (acc := acc) (c := c) (r := bs.drop (k + 1)) (hbn' hbd) (hcutN hcut)
            rw [hF] at hdec
            clear hF hacc ha hh2 hbd' hbn' hdv hcutN hmulN
            go_wp2_with (go_at_call 53; refine (LW.out _).mono ?_; rintro e w' ⟨rfl, hw'⟩; have hw' := hw'.symm; subst hw')
            all_goals go_ret2
            all_goals first | exact ⟨rfl, rfl⟩ | exact ⟨by rw [hdec]; rfl, rfl⟩
          · have icut : a < ((q : Int) + 1 : Int) := by omega
            obtain ⟨hp0, hp1⟩ := hmulN icut
            have hwm : IntKind.u64.wrap p = p := by rw [IntKind.wrap_u64]; omega
            by_cases hov : 18446744073709551616 ≤ p + (((c.toNat : Nat) : Int) - 48)
            · have hF := pu_over (b := b) (acc := acc) (c := c) (r := bs.drop (k + 1)) (hbn' hbd) (by have := hh2.out; omega)
              rw [hF] at hdec
              have hwr : IntKind.u64.wrap (p + (((c.toNat : Nat) : Int) - 48)) = p + (((c.toNat : Nat) : Int) - 48) - 18446744073709551616 := by
                rw [IntKind.wrap_u64]
                omega
              clear hF hacc ha hh2 hbd' hbn' hdv hcutN hmulN
              go_wp2_with (go_at_call 53; refine (LW.out _).mono ?_; rintro e w' ⟨rfl, hw'⟩; have hw' := hw'.symm; subst hw')
              all_goals go_ret2
              all_goals first | exact ⟨rfl, rfl⟩ | exact ⟨by rw [hdec]; rfl, rfl⟩
            · have hF := pu_next (b := b) (acc := acc) (c := c) (r := bs.drop (k + 1)) (hbn' hbd) (by have := hh2.out; omega)
              have HN : Hid (p + (((c.toNat : Nat) : Int) - 48) = ((acc * b + dig c.toNat : Nat) : Int) ∧ acc * b + dig c.toNat < 18446744073709551616 ∧ pu b 0 bs = pu b (acc * b + dig c.toNat) (bs.drop (k + 1))) := Lib.hid ⟨by have := hh2.out; omega, by have := hh2.out; omega, hdec.trans hF⟩
              have iov : p + (((c.toNat : Nat) : Int) - 48) < 18446744073709551616 := by omega
              have hwr : IntKind.u64.wrap (p + (((c.toNat : Nat) : Int) - 48)) = p + (((c.toNat : Nat) : Int) - 48) := by
                rw [IntKind.wrap_u64]
                omega
              clear hF hacc ha hh2 hbd' hbn' hdv hcutN hmulN hdec hov
              go_wp2_with (go_at_call 53; refine (LW.out _).mono ?_; rintro e w' ⟨rfl, hw'⟩; have hw' := hw'.symm; subst hw')
              all_goals refine ⟨⟨k + 1, acc * b + dig c.toNat, p + (((c.toNat : Nat) : Int) - 48), rfl, (by first | rfl | (congr 1; omega)), (by first | rfl | (congr 1; omega)), by omega, HN⟩, by simp [RowKit.intOf]; omega⟩
      · by_cases hlet : 97 ≤ lw ∧ lw ≤ 122
        · have hd0 : (97 : Int) ≤ (lw : Int) := by omega
          have hd1 : (lw : Int) ≤ 122 := by omega
          have n95 : ¬ ((c.toNat : Nat) : Int) = 95 := fun h => by have := D5 (by omega); omega
          have hdi : ¬ (48 ≤ ((c.toNat : Nat) : Int) ∧ ((c.toNat : Nat) : Int) ≤ 57) := by omega
          have hdd := D2 hdig hlet.1 hlet.2
          have hdv : (dg : Int) = (lw : Int) - 97 + 10 := by omega
          have hbd' : b ≤ dg → b ≤ dig c.toNat := fun h => by rw [← hdg]; exact h
          have hbn' : ¬ b ≤ dg → ¬ b ≤ dig c.toNat := fun h => by rw [← hdg]; exact h
          clear hdig hlet
          clear D1 D2 D3 D5 hdg hlw
          by_cases hbd : b ≤ dg
          · have hF := pu_bad (b := b) (acc := acc) (c := c) (r := bs.drop (k + 1)) (hbd' hbd)
            rw [hF] at hdec
            have hbi : (b : Int) ≤ (lw : Int) - 97 + 10 := by omega
            clear hF hacc ha hh2 hbd' hbn' hdv hcutN hmulN
            go_wp2_with (go_at_call 53; refine (LW.out _).mono ?_; rintro e w' ⟨rfl, hw'⟩; have hw' := hw'.symm; subst hw')
            all_goals go_ret2
            all_goals first | exact ⟨rfl, rfl⟩ | exact ⟨by rw [hdec]; rfl, rfl⟩
          · have hbi : (lw : Int) - 97 + 10 < (b : Int) := by omega
            by_cases hcut : ((q : Int) + 1 : Int) ≤ a
            · have hF := pu_over (b := b) (acc := acc) (c := c) (r := bs.drop (k + 1)) (hbn' hbd) (hcutN hcut)
              rw [hF] at hdec
              clear hF hacc ha hh2 hbd' hbn' hdv hcutN hmulN
              go_wp2_with (go_at_call 53; refine (LW.out _).mono ?_; rintro e w' ⟨rfl, hw'⟩; have hw' := hw'.symm; subst hw')
              all_goals go_ret2
              all_goals first | exact ⟨rfl, rfl⟩ | exact ⟨by rw [hdec]; rfl, rfl⟩
            · have icut : a < ((q : Int) + 1 : Int) := by omega
              obtain ⟨hp0, hp1⟩ := hmulN icut
              have hwm : IntKind.u64.wrap p = p := by rw [IntKind.wrap_u64]; omega
              by_cases hov : 18446744073709551616 ≤ p + ((lw : Int) - 97 + 10)
              · have hF := pu_over (b := b) (acc := acc) (c := c) (r := bs.drop (k + 1)) (hbn' hbd) (by have := hh2.out; omega)
                rw [hF] at hdec
                have hwr : IntKind.u64.wrap (p + ((lw : Int) - 97 + 10)) = p + ((lw : Int) - 97 + 10) - 18446744073709551616 := by
                  rw [IntKind.wrap_u64]
                  omega
                clear hF hacc ha hh2 hbd' hbn' hdv hcutN hmulN
                go_wp2_with (go_at_call 53; refine (LW.out _).mono ?_; rintro e w' ⟨rfl, hw'⟩; have hw' := hw'.symm; subst hw')
                all_goals go_ret2
                all_goals first | exact ⟨rfl, rfl⟩ | exact ⟨by rw [hdec]; rfl, rfl⟩
              · have hF := pu_next (b := b) (acc := acc) (c := c) (r := bs.drop (k + 1)) (hbn' hbd) (by have := hh2.out; omega)
                have HN : Hid (p + ((lw : Int) - 97 + 10) = ((acc * b + dig c.toNat : Nat) : Int) ∧ acc * b + dig c.toNat < 18446744073709551616 ∧ pu b 0 bs = pu b (acc * b + dig c.toNat) (bs.drop (k + 1))) := Lib.hid ⟨by have := hh2.out; omega, by have := hh2.out; omega, hdec.trans hF⟩
                have iov : p + ((lw : Int) - 97 + 10) < 18446744073709551616 := by omega
                have hwr : IntKind.u64.wrap (p + ((lw : Int) - 97 + 10)) = p + ((lw : Int) - 97 + 10) := by
                  rw [IntKind.wrap_u64]
                  omega
                clear hF hacc ha hh2 hbd' hbn' hdv hcutN hmulN hdec hov
                go_wp2_with (go_at_call 53; refine (LW.out _).mono ?_; rintro e w' ⟨rfl, hw'⟩; have hw' := hw'.symm; subst hw')
                all_goals refine ⟨⟨k + 1, acc * b + dig c.toNat, p + ((lw : Int) - 97 + 10), rfl, (by first | rfl | (congr 1; omega)), (by first | rfl | (congr 1; omega)), by omega, HN⟩, by simp [RowKit.intOf]; omega⟩
        · have hdd := D3 hdig hlet
          have hF := pu_bad (b := b) (acc := acc) (c := c) (r := bs.drop (k + 1)) (by rw [← hdg]; omega)
          rw [hF] at hdec
          have hdi : ¬ (48 ≤ ((c.toNat : Nat) : Int) ∧ ((c.toNat : Nat) : Int) ≤ 57) := by omega
          have hli : ¬ (97 ≤ (lw : Int) ∧ (lw : Int) ≤ 122) := by omega
          clear hF hacc ha hh2 D1 D2 D3 D5 hdg hlw hdd hdig hlet hcutN hmulN
          go_wp2_with (first | (go_at_call 53; refine (LW.out _).mono ?_; rintro e w' ⟨rfl, hw'⟩; have hw' := hw'.symm; subst hw') | (go_at_call 53; refine (lower95 _).mono ?_; rintro e w' ⟨rfl, hw'⟩; have hw' := hw'.symm; subst hw'))
          all_goals go_ret2
          all_goals first | exact ⟨rfl, rfl⟩ | exact ⟨by rw [hdec]; rfl, rfl⟩
    · have hkk : k = t.size := by omega
      subst hkk
      have hF : pu b acc (bs.drop t.size) = .ok acc := by rw [List.drop_eq_nil_of_le (by omega)]; rfl
      rw [hF] at hdec
      subst ha
      clear hacc hF a0 a1
      go_wp2
      all_goals go_ret2
      all_goals first | exact ⟨rfl, rfl⟩ | exact ⟨by rw [hdec]; rfl, rfl⟩
end Go.Proofs.YtopaaaacbegmnaaDoor
