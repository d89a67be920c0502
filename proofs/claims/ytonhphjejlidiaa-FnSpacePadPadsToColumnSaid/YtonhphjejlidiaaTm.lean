/-
  The walk of zzTailModel: the column and the blank flag read from the text's end. Conditions: those in each theorem.
-/
import Derived.Test.YtonhphjejlidiaaPd
namespace Go.Proofs.Ytonhphjejlidiaa
set_option linter.unusedVariables false
open Go.Shelf Go.RowKit Go.Lib

/-- m bytes are left, cnt have been read -/
structure AtM (l : List UInt8) (m cnt : Nat) (bl : Bool) : Prop where
  sum : m + cnt = l.length
  line : 10 ∉ l.drop m
  blank : bl = (l.drop m).all blankB
theorem AtM.fin {l : List UInt8} {m cnt : Nat} {bl : Bool} (h : AtM l m cnt bl) (hA : m = 0 ∨ l[m - 1]? = some 10) (hm : m = 0 ∨ 0 < m) : addL (1, true) l = (1 + cnt, bl) := by
  have hl : (l.drop m).length = cnt := by rw [List.length_drop]; have := h.sum; omega
  rw [addL_tail (l := l) (A := l.take m) (T := l.drop m) (List.take_append_drop m l).symm h.line ?_, hl, h.blank]
  rcases hA with rfl | hA
  · exact .inl rfl
  · by_cases h0 : m = 0
    · subst h0; exact .inl rfl
    · refine .inr ⟨l.take (m - 1), ?_⟩
      have e : m = (m - 1) + 1 := by omega
      rw [e, List.take_add_one, show m - 1 + 1 - 1 = m - 1 by omega, hA]; rfl
theorem AtM.step {l : List UInt8} {m cnt : Nat} {bl : Bool} (h : AtM l (m + 1) cnt bl) {c : UInt8} (hc : l[m]? = some c) (h10 : c ≠ 10) : AtM l m (cnt + 1) (bl && blankB c) := by
  have e : l.drop m = c :: l.drop (m + 1) := by
    have hm : m < l.length := (List.getElem?_eq_some_iff.1 hc).1
    rw [List.drop_eq_getElem_cons hm]
    rw [List.getElem?_eq_getElem hm] at hc
    rw [Option.some.inj hc]
  refine ⟨by have := h.sum; omega, ?_, ?_⟩
  · rw [e]; intro hx
    rcases List.mem_cons.1 hx with hx | hx
    · exact h10 hx.symm
    · exact h.line hx
  · rw [e, List.all_cons, h.blank, Bool.and_comm]

set_option maxRecDepth 20000 in
set_option maxHeartbeats 4000000 in
theorem tail42 (s : ByteArray) (w : World) (hs : s.size ≤ 1073741824) (C : Nat) (L : Bool) (hCL : addL (1, true) s.data.toList = (C, L)) :
    Calls Try.prog 42 #[.string s] w fun e w' => e = .returned (.tuple #[.int .i64 C, .bool L]) ∧ w = w' := by
  have HCL := Lib.hid hCL
  have hsl : s.data.toList.length = s.size := by simp
  have A0 : Hid (AtM s.data.toList s.size 0 true) := Lib.hid ⟨by omega, by rw [List.drop_of_length_le (by omega)]; simp, by rw [List.drop_of_length_le (by omega)]; rfl⟩
  have hsi : (s.size : Int) ≤ 1073741824 := by omega
  clear hCL
  go_enter Try.func42, Try.ntmps42
  go_wp2
  go_loopg [4, 5, 6] (s.size) (fun g v4 v5 v6 wr => ∃ (m cnt : Nat) (bl : Bool), v4 = .int .i64 cnt ∧ v5 = .bool bl ∧ v6 = .int .i64 ((m : Int) - 1) ∧ m + cnt = s.size ∧ m ≤ g ∧ wr = w ∧ Hid (AtM s.data.toList m cnt bl))
  case atStart => exact ⟨s.size, 0, true, rfl, rfl, by go_num, by omega, by omega, rfl, A0⟩
  case round =>
    clear A0
    obtain ⟨m, cnt, bl, rfl, rfl, rfl, hsum, hg, rfl, AT⟩ := hrel
    have hci : (cnt : Int) ≤ 1073741824 := by omega
    by_cases hm : m = 0
    · subst hm
      have h1 := AT.out.fin (.inl rfl) (.inl rfl)
      rw [HCL.out] at h1
      have e1 : C = 1 + cnt := congrArg Prod.fst h1
      have e2 : L = bl := congrArg Prod.snd h1
      subst e1 e2
      clear HCL h1
      go_wp2
      go_ret2
      exact ⟨by simp, rfl⟩
    · obtain ⟨q, rfl⟩ : ∃ q, m = q + 1 := ⟨m - 1, by omega⟩
      have hq : q < s.size := by omega
      have hqi : (q : Int) < (s.size : Int) := by omega
      have hx : s.data.toList[q]? = some s[q] := Lib.data_getElem? s q hq
      have e0 : (((q + 1 : Nat) : Int) - 1) = (q : Int) := by omega
      rw [e0]
      have g0 : (0 : Int) ≤ (q : Int) := by omega
      by_cases h10 : s[q] = 10
      · have h1 := AT.out.fin (.inr (by rw [show q + 1 - 1 = q by omega, hx, h10])) (.inr (by omega))
        rw [HCL.out] at h1
        have e1 : C = 1 + cnt := congrArg Prod.fst h1
        have e2 : L = bl := congrArg Prod.snd h1
        subst e1 e2
        have hc : ((s[q].toNat : Nat) : Int) = 10 := by rw [h10]; rfl
        clear HCL h1 h10 hx
        go_wp2
        go_ret2
        exact ⟨by simp, rfl⟩
      · have A1 := Lib.hid (AT.out.step hx h10)
        have hc10 : ¬ ((s[q].toNat : Nat) : Int) = 10 := fun e => h10 (Lib.byte_eq_of_toNat (b := 10) e)
        by_cases h32 : s[q] = 32
        · have hc : ((s[q].toNat : Nat) : Int) = 32 := by rw [h32]; rfl
          have hb : blankB s[q] = true := by rw [h32]; rfl
          rw [hb, Bool.and_true] at A1
          clear h10 hx h32 hb
          go_wp2
          go_roundg (q)
          case measure => omega
          case rel => exact ⟨q, cnt + 1, bl, by go_num, rfl, by go_num, by omega, Nat.le_refl _, rfl, A1⟩
        · have hc32 : ¬ ((s[q].toNat : Nat) : Int) = 32 := fun e => h32 (Lib.byte_eq_of_toNat (b := 32) e)
          by_cases h9 : s[q] = 9
          · have hc : ((s[q].toNat : Nat) : Int) = 9 := by rw [h9]; rfl
            have hb : blankB s[q] = true := by rw [h9]; rfl
            rw [hb, Bool.and_true] at A1
            clear h10 hx h32 hb h9
            go_wp2
            go_roundg (q)
            case measure => omega
            case rel => exact ⟨q, cnt + 1, bl, by go_num, rfl, by go_num, by omega, Nat.le_refl _, rfl, A1⟩
          · have hc9 : ¬ ((s[q].toNat : Nat) : Int) = 9 := fun e => h9 (Lib.byte_eq_of_toNat (b := 9) e)
            by_cases h255 : s[q] = 255
            · have hc : ((s[q].toNat : Nat) : Int) = 255 := by rw [h255]; rfl
              have hb : blankB s[q] = true := by rw [h255]; rfl
              rw [hb, Bool.and_true] at A1
              clear h10 hx h32 hb h9 h255
              go_wp2
              go_roundg (q)
              case measure => omega
              case rel => exact ⟨q, cnt + 1, bl, by go_num, rfl, by go_num, by omega, Nat.le_refl _, rfl, A1⟩
            · have hc255 : ¬ ((s[q].toNat : Nat) : Int) = 255 := fun e => h255 (Lib.byte_eq_of_toNat (b := 255) e)
              have b1 : (((s[q].toNat : Nat) : Int) != 32) = true := by simpa using hc32
              have b2 : (((s[q].toNat : Nat) : Int) != 9) = true := by simpa using hc9
              have b3 : (((s[q].toNat : Nat) : Int) != 255) = true := by simpa using hc255
              have hb : blankB s[q] = false := by simp [blankB, h9, h32, h255]
              rw [hb, Bool.and_false] at A1
              clear h10 hx h32 hb h9 h255
              go_wp2
              go_roundg (q)
              case measure => omega
              case rel => exact ⟨q, cnt + 1, false, by go_num, rfl, by go_num, by omega, Nat.le_refl _, rfl, A1⟩
end Go.Proofs.Ytonhphjejlidiaa
