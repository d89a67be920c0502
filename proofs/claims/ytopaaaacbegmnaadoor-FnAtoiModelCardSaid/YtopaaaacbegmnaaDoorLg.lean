/-
  The walk of atoiLargeBase. Conditions: those in each theorem.
-/
import Derived.Test.YtopaaaacbegmnaaDoorProg
import Derived.Test.YtopaaaacbegmnaaDoorP1
import Derived.WalkKit
import Derived.WalkSpells
import Derived.Lib.Hide
import Derived.Lib.IndexBytes
import Derived.Lib.Strings
namespace Go.Proofs.YtopaaaacbegmnaaDoor
set_option linter.unusedVariables false
open Go.RowKit Go.Lib

theorem wrap_same {x y : Int} (h : x % 18446744073709551616 = y % 18446744073709551616) : wrap64 x = wrap64 y := by unfold wrap64; omega
theorem wrap_mod (x : Int) : wrap64 x % 18446744073709551616 = x % 18446744073709551616 := by unfold wrap64; omega
/-- one step of the great bases -/
theorem lg_step (acc b d : Nat) : wrap64 (wrap64 (wrap64 (acc : Int) * (b : Int)) + (d : Int)) = wrap64 (((acc * b + d) % 18446744073709551616 : Nat) : Int) := by
  apply wrap_same
  have e1 : (wrap64 (acc : Int) * (b : Int)) % 18446744073709551616 = ((acc : Int) * (b : Int)) % 18446744073709551616 := by
    rw [Int.mul_emod, wrap_mod, ← Int.mul_emod]
  have e2 := wrap_mod (wrap64 (acc : Int) * (b : Int))
  have e3 : (((acc * b + d) % 18446744073709551616 : Nat) : Int) = ((acc : Int) * (b : Int) + (d : Int)) % 18446744073709551616 := by
    rw [Int.natCast_emod, Int.natCast_add, Int.natCast_mul]; rfl
  rw [e3, Int.emod_emod_of_dvd _ (Int.dvd_refl _)]
  rw [Int.add_emod, e2, e1, ← Int.add_emod]
theorem lg_bad {b acc : Nat} {c : UInt8} {r : List UInt8} (h : b ≤ dig64 c.toNat) : lg b acc (c :: r) = 0 := by rw [lg, if_pos h]
theorem lg_next {b acc : Nat} {c : UInt8} {r : List UInt8} (h : ¬ b ≤ dig64 c.toNat) : lg b acc (c :: r) = lg b ((acc * b + dig64 c.toNat) % 18446744073709551616) r := by rw [lg, if_neg h]
theorem ret_i64 {a b : Int} (h : a = b) : Ending.returned (.int .i64 a) = .returned (.int .i64 b) := by rw [h]

theorem wrap_is (x : Int) : IntKind.i64.wrap x = wrap64 x := by rw [IntKind.wrap_i64]; unfold wrap64; rfl
set_option maxHeartbeats 4000000 in
set_option maxRecDepth 20000 in
theorem large26 (b : Nat) (h2 : 37 ≤ b) (h64 : b ≤ 64) (s : ByteArray) (hs : s.size ≤ 1073741824) (w : World) :
    Calls Tryd.prog 26 #[.string s, .int .i64 b] w fun e w' => e = .returned (.int .i64 (lg b 0 s.data.toList)) ∧ w' = w := by
  have sz : s.data.toList.length = s.size := by simp
  obtain ⟨l, hl⟩ : ∃ l, l = s.data.toList := ⟨_, rfl⟩
  rw [← hl] at sz ⊢
  have HL := Lib.hid hl
  clear hl
  go_enter Tryd.func26, Tryd.ntmps26
  go_wp2
  go_loop [5, 11] (fun v5 v11 => ∃ (k acc : Nat) (n : Int), v5 = .int .i64 n ∧ v11 = .int .i64 k ∧ (k : Int) ≤ (s.size : Int) ∧ Hid (n = wrap64 acc ∧ lg b 0 l = lg b acc (l.drop k))) (fun v5 v11 => s.size - (intOf v11).toNat)
  case atStart => exact ⟨0, 0, 0, rfl, rfl, by omega, Lib.hid ⟨by unfold wrap64; rfl, rfl⟩⟩
  case round =>
    obtain ⟨k, acc, n, rfl, rfl, hk, hh⟩ := hrel
    by_cases hlt : (k : Int) < (s.size : Int)
    · have hk' : k < s.size := by omega
      have hdrop : l.drop k = s[k] :: l.drop (k + 1) := by
        rw [List.drop_eq_getElem_cons (by omega)]
        have := Lib.data_getElem? s k hk'
        rw [← HL.out, List.getElem?_eq_getElem (by omega)] at this
        rw [Option.some.inj this]
      have h2' := hh.out
      rw [hdrop] at h2'
      clear hh
      have hh := Lib.hid h2'
      clear h2' hdrop
      obtain ⟨c, hc⟩ : ∃ c, c = s[k] := ⟨_, rfl⟩
      rw [← hc] at hh
      have hcv : ((s[k].toNat : Nat) : Int) = ((c.toNat : Nat) : Int) := by rw [hc]
      have hcs := c.toNat_lt
      clear hc
      obtain ⟨m1, hm1⟩ : ∃ m1, m1 = wrap64 (n * (b : Int)) := ⟨_, rfl⟩
      have HM : Hid (m1 = wrap64 (n * (b : Int))) := Lib.hid hm1
      have hw1 : IntKind.i64.wrap (n * (b : Int)) = m1 := by rw [hm1]; exact wrap_is _
      obtain ⟨m2, hm2⟩ : ∃ m2 : Int → Int, m2 = fun d => wrap64 (wrap64 (n * (b : Int)) + d) := ⟨_, rfl⟩
      have hm2d : Hid (∀ d, m2 d = wrap64 (wrap64 (n * (b : Int)) + d)) := Lib.hid fun d => by rw [hm2]
      clear hm1 hm2
      by_cases cD : 48 ≤ c.toNat ∧ c.toNat ≤ 57
      · have i1 : (48 : Int) ≤ ((c.toNat : Nat) : Int) := by omega
        have i2 : ((c.toNat : Nat) : Int) ≤ 57 := by omega
        have hdv : ((dig64 c.toNat : Nat) : Int) = ((c.toNat : Nat) : Int) - 48 := by
          unfold dig64
          repeat' split
          all_goals omega
        by_cases hbd : b ≤ dig64 c.toNat
        · have hF : lg b 0 l = 0 := hh.out.2.trans (lg_bad hbd)
          have R := Lib.hid hF
          have hbi : (b : Int) ≤ ((c.toNat : Nat) : Int) - 48 := by omega
          clear hF hh hdv hbd
          go_wp2
          all_goals go_ret
          all_goals exact ⟨ret_i64 R.out.symm, rfl⟩
        · have hbi : ((c.toNat : Nat) : Int) - 48 < (b : Int) := by omega
          have HN : Hid (m2 (((c.toNat : Nat) : Int) - 48) = wrap64 (((acc * b + dig64 c.toNat) % 18446744073709551616 : Nat) : Int) ∧ lg b 0 l = lg b ((acc * b + dig64 c.toNat) % 18446744073709551616) (l.drop (k + 1))) := Lib.hid ⟨by rw [← hdv, hm2d.out, hh.out.1]; exact lg_step acc b _, hh.out.2.trans (lg_next hbd)⟩
          have hw2 : IntKind.i64.wrap (m1 + (((c.toNat : Nat) : Int) - 48)) = m2 (((c.toNat : Nat) : Int) - 48) := by rw [hm2d.out, HM.out]; exact wrap_is _
          clear hh hdv hbd
          go_wp2
          go_round
          case rel => exact ⟨k + 1, _, m2 (((c.toNat : Nat) : Int) - 48), rfl, by go_num, by omega, HN⟩
          case measure => simp [intOf]; omega
      · by_cases cL : 97 ≤ c.toNat ∧ c.toNat ≤ 122
        · have i1 : (97 : Int) ≤ ((c.toNat : Nat) : Int) := by omega
          have i2 : ((c.toNat : Nat) : Int) ≤ 122 := by omega
          have hdv : ((dig64 c.toNat : Nat) : Int) = ((c.toNat : Nat) : Int) - 97 + 10 := by
            unfold dig64
            repeat' split
            all_goals omega
          by_cases hbd : b ≤ dig64 c.toNat
          · have hF : lg b 0 l = 0 := hh.out.2.trans (lg_bad hbd)
            have R := Lib.hid hF
            have hbi : (b : Int) ≤ ((c.toNat : Nat) : Int) - 97 + 10 := by omega
            clear hF hh hdv hbd
            go_wp2
            all_goals go_ret
            all_goals exact ⟨ret_i64 R.out.symm, rfl⟩
          · have hbi : ((c.toNat : Nat) : Int) - 97 + 10 < (b : Int) := by omega
            have HN : Hid (m2 (((c.toNat : Nat) : Int) - 97 + 10) = wrap64 (((acc * b + dig64 c.toNat) % 18446744073709551616 : Nat) : Int) ∧ lg b 0 l = lg b ((acc * b + dig64 c.toNat) % 18446744073709551616) (l.drop (k + 1))) := Lib.hid ⟨by rw [← hdv, hm2d.out, hh.out.1]; exact lg_step acc b _, hh.out.2.trans (lg_next hbd)⟩
            have hw2 : IntKind.i64.wrap (m1 + (((c.toNat : Nat) : Int) - 97 + 10)) = m2 (((c.toNat : Nat) : Int) - 97 + 10) := by rw [hm2d.out, HM.out]; exact wrap_is _
            clear hh hdv hbd
            go_wp2
            go_round
            case rel => exact ⟨k + 1, _, m2 (((c.toNat : Nat) : Int) - 97 + 10), rfl, by go_num, by omega, HN⟩
            case measure => simp [intOf]; omega
        · by_cases cU : 65 ≤ c.toNat ∧ c.toNat ≤ 90
          · have i1 : (65 : Int) ≤ ((c.toNat : Nat) : Int) := by omega
            have i2 : ((c.toNat : Nat) : Int) ≤ 90 := by omega
            have hdv : ((dig64 c.toNat : Nat) : Int) = ((c.toNat : Nat) : Int) - 65 + 36 := by
              unfold dig64
              repeat' split
              all_goals omega
            by_cases hbd : b ≤ dig64 c.toNat
            · have hF : lg b 0 l = 0 := hh.out.2.trans (lg_bad hbd)
              have R := Lib.hid hF
              have hbi : (b : Int) ≤ ((c.toNat : Nat) : Int) - 65 + 36 := by omega
              clear hF hh hdv hbd
              go_wp2
              all_goals go_ret
              all_goals exact ⟨ret_i64 R.out.symm, rfl⟩
            · have hbi : ((c.toNat : Nat) : Int) - 65 + 36 < (b : Int) := by omega
              have HN : Hid (m2 (((c.toNat : Nat) : Int) - 65 + 36) = wrap64 (((acc * b + dig64 c.toNat) % 18446744073709551616 : Nat) : Int) ∧ lg b 0 l = lg b ((acc * b + dig64 c.toNat) % 18446744073709551616) (l.drop (k + 1))) := Lib.hid ⟨by rw [← hdv, hm2d.out, hh.out.1]; exact lg_step acc b _, hh.out.2.trans (lg_next hbd)⟩
              have hw2 : IntKind.i64.wrap (m1 + (((c.toNat : Nat) : Int) - 65 + 36)) = m2 (((c.toNat : Nat) : Int) - 65 + 36) := by rw [hm2d.out, HM.out]; exact wrap_is _
              clear hh hdv hbd
              go_wp2
              go_round
              case rel => exact ⟨k + 1, _, m2 (((c.toNat : Nat) : Int) - 65 + 36), rfl, by go_num, by omega, HN⟩
              case measure => simp [intOf]; omega
          · by_cases cA : c.toNat = 64
            · have i1 : ((c.toNat : Nat) : Int) = 64 := by omega
              have hdv : ((dig64 c.toNat : Nat) : Int) = 62 := by
                unfold dig64
                repeat' split
                all_goals omega
              by_cases hbd : b ≤ dig64 c.toNat
              · have hF : lg b 0 l = 0 := hh.out.2.trans (lg_bad hbd)
                have R := Lib.hid hF
                have hbi : (b : Int) ≤ 62 := by omega
                clear hF hh hdv hbd
                go_wp2
                all_goals go_ret
                all_goals exact ⟨ret_i64 R.out.symm, rfl⟩
              · have hbi : 62 < (b : Int) := by omega
                have HN : Hid (m2 (62) = wrap64 (((acc * b + dig64 c.toNat) % 18446744073709551616 : Nat) : Int) ∧ lg b 0 l = lg b ((acc * b + dig64 c.toNat) % 18446744073709551616) (l.drop (k + 1))) := Lib.hid ⟨by rw [← hdv, hm2d.out, hh.out.1]; exact lg_step acc b _, hh.out.2.trans (lg_next hbd)⟩
                have hw2 : IntKind.i64.wrap (m1 + (62)) = m2 (62) := by rw [hm2d.out, HM.out]; exact wrap_is _
                clear hh hdv hbd
                go_wp2
                go_round
                case rel => exact ⟨k + 1, _, m2 (62), rfl, by go_num, by omega, HN⟩
                case measure => simp [intOf]; omega
            · by_cases cB : c.toNat = 95
              · have i1 : ((c.toNat : Nat) : Int) = 95 := by omega
                have hdv : ((dig64 c.toNat : Nat) : Int) = 63 := by
                  unfold dig64
                  repeat' split
                  all_goals omega
                by_cases hbd : b ≤ dig64 c.toNat
                · have hF : lg b 0 l = 0 := hh.out.2.trans (lg_bad hbd)
                  have R := Lib.hid hF
                  have hbi : (b : Int) ≤ 63 := by omega
                  clear hF hh hdv hbd
                  go_wp2
                  all_goals go_ret
                  all_goals exact ⟨ret_i64 R.out.symm, rfl⟩
                · have hbi : 63 < (b : Int) := by omega
                  have HN : Hid (m2 (63) = wrap64 (((acc * b + dig64 c.toNat) % 18446744073709551616 : Nat) : Int) ∧ lg b 0 l = lg b ((acc * b + dig64 c.toNat) % 18446744073709551616) (l.drop (k + 1))) := Lib.hid ⟨by rw [← hdv, hm2d.out, hh.out.1]; exact lg_step acc b _, hh.out.2.trans (lg_next hbd)⟩
                  have hw2 : IntKind.i64.wrap (m1 + (63)) = m2 (63) := by rw [hm2d.out, HM.out]; exact wrap_is _
                  clear hh hdv hbd
                  go_wp2
                  go_round
                  case rel => exact ⟨k + 1, _, m2 (63), rfl, by go_num, by omega, HN⟩
                  case measure => simp [intOf]; omega
              · have hF : lg b 0 l = 0 := hh.out.2.trans (lg_bad (by
                  have : dig64 c.toNat = 99 := by unfold dig64; rw [if_neg cD, if_neg cL, if_neg cU, if_neg cA, if_neg cB]
                  omega))
                have R := Lib.hid hF
                have i1 : ¬ (48 ≤ ((c.toNat : Nat) : Int) ∧ ((c.toNat : Nat) : Int) ≤ 57) := by omega
                have i2 : ¬ (97 ≤ ((c.toNat : Nat) : Int) ∧ ((c.toNat : Nat) : Int) ≤ 122) := by omega
                have i3 : ¬ (65 ≤ ((c.toNat : Nat) : Int) ∧ ((c.toNat : Nat) : Int) ≤ 90) := by omega
                have i4 : ¬ ((c.toNat : Nat) : Int) = 64 := by omega
                have i5 : ¬ ((c.toNat : Nat) : Int) = 95 := by omega
                clear hF hh
                go_wp2
                all_goals go_ret
                all_goals exact ⟨ret_i64 R.out.symm, rfl⟩
    · have R : Hid (n = lg b 0 l) := Lib.hid (by
        rw [hh.out.2, List.drop_eq_nil_of_le (by omega)]
        exact hh.out.1)
      go_wp2
      go_ret
      exact ⟨ret_i64 R.out, rfl⟩
end Go.Proofs.YtopaaaacbegmnaaDoor
