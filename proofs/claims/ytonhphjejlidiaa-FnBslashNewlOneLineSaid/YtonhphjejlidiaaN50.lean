/-
  The walks of zHasPrefix, zHasSuffix and zCol. Conditions: those in each theorem.
-/
import Derived.Test.YtonhphjejlidiaaN48
namespace Go.Proofs.Ytonhphjejlidiaa
set_option linter.unusedVariables false
open Go.Shelf Go.RowKit Go.Lib

set_option maxRecDepth 20000 in
set_option maxHeartbeats 1000000 in
theorem pfx36 (o q : ByteArray) (w : World) (ho : o.size ≤ 1073741824) (h : q.size ≤ o.size) (he : ((o.extract 0 q.size).toList == q.toList) = true) : Calls Try.prog 36 #[.string o, .string q] w fun e w' => e = .returned (.bool true) ∧ w = w' := by
  have h1 : (q.size : Int) ≤ (o.size : Int) := by omega
  have h2 : (o.size : Int) ≤ 1073741824 := by omega
  go_enter Try.func36, Try.ntmps36
  go_wp2
  go_ret
  exact ⟨rfl, rfl⟩
set_option maxRecDepth 20000 in
set_option maxHeartbeats 1000000 in
theorem sfx37 (o q : ByteArray) (m : Nat) (w : World) (ho : o.size ≤ 1073741824) (h : o.size = m + q.size) (he : ((o.extract m o.size).toList == q.toList) = true) : Calls Try.prog 37 #[.string o, .string q] w fun e w' => e = .returned (.bool true) ∧ w = w' := by
  have h1 : (q.size : Int) ≤ (o.size : Int) := by omega
  have h2 : (o.size : Int) ≤ 1073741824 := by omega
  have h3 : (o.size : Int) - (q.size : Int) = (m : Int) := by omega
  have h4 : (m : Int) ≤ (o.size : Int) := by omega
  clear h
  go_enter Try.func37, Try.ntmps37
  go_wp2
  go_ret
  exact ⟨rfl, rfl⟩

/-- j bytes have been read -/
def AtF (l : List UInt8) (j : Nat) (c : Nat) (bl : Bool) : Prop := addL (1, true) (l.take j) = (c, bl)
theorem AtF.step {l : List UInt8} {j c : Nat} {bl : Bool} (h : AtF l j c bl) {x : UInt8} (hx : l[j]? = some x) {c2 : Nat} {b2 : Bool} (hs : addB (c, bl) x = (c2, b2)) : AtF l (j + 1) c2 b2 := by
  unfold AtF at h ⊢
  rw [List.take_add_one, hx]
  show addL (1, true) (l.take j ++ [x]) = _
  rw [addL_one, h, hs]

set_option maxRecDepth 20000 in
set_option maxHeartbeats 4000000 in
theorem col38 (s : ByteArray) (w : World) (hs : s.size ≤ 1073741824) (C : Nat) (L : Bool) (hCL : addL (1, true) s.data.toList = (C, L)) :
    Calls Try.prog 38 #[.string s] w fun e w' => e = .returned (.tuple #[.int .u64 C, .bool L]) ∧ w = w' := by
  have hsl : s.data.toList.length = s.size := by simp
  have A0 : Hid (AtF s.data.toList 0 1 true) := Lib.hid rfl
  have hsi : (s.size : Int) ≤ 1073741824 := by omega
  have HCL := Lib.hid hCL
  have FIN : Hid (∀ c bl, AtF s.data.toList s.size c bl → C = c ∧ L = bl) := Lib.hid fun c bl h => by
    unfold AtF at h
    rw [← hsl, List.take_length, hCL] at h
    exact ⟨congrArg Prod.fst h, congrArg Prod.snd h⟩
  have CB : Hid (∀ j c bl, AtF s.data.toList j c bl → c ≤ j + 2) := Lib.hid fun j c bl h => by
    have h1 := addL_le (s.data.toList.take j) (1, true)
    unfold AtF at h
    rw [h] at h1
    have : (s.data.toList.take j).length ≤ j := by rw [List.length_take]; exact Nat.min_le_left _ _
    simp only at h1
    omega
  clear hCL
  go_enter Try.func38, Try.ntmps38
  go_wp2
  go_loopg [4, 5, 6] (s.size) (fun g v3 v4 v5 wr => ∃ (j c : Nat) (bl : Bool), v3 = .int .u64 c ∧ v4 = .bool bl ∧ v5 = .int .i64 (j : Int) ∧ (j : Int) ≤ (s.size : Int) ∧ s.size - j ≤ g ∧ wr = w ∧ Hid (AtF s.data.toList j c bl))
  case atStart => exact ⟨0, 1, true, rfl, rfl, rfl, by omega, by omega, rfl, A0⟩
  case round =>
    clear A0
    obtain ⟨j, c, bl, rfl, rfl, rfl, hj, hg, rfl, AT⟩ := hrel
    have hcb := CB.out j c bl AT.out
    have hci : (c : Int) ≤ 1073741826 := by omega
    by_cases hlt : (j : Int) < (s.size : Int)
    · have hjn : j < s.size := by omega
      have hx : s.data.toList[j]? = some s[j] := Lib.data_getElem? s j hjn
      by_cases h10 : s[j] = 10
      · have A1 := Lib.hid (AT.out.step (c2 := 1) (b2 := true) hx (by rw [h10]; rfl))
        have hc : ((s[j].toNat : Nat) : Int) = 10 := by rw [h10]; rfl
        clear hx h10 hcb
        go_wp2
        go_roundg (s.size - (j + 1))
        case measure => omega
        case rel => exact ⟨j + 1, 1, true, rfl, rfl, by go_num, by omega, Nat.le_refl _, rfl, A1⟩
      · have hc10 : ¬ ((s[j].toNat : Nat) : Int) = 10 := fun e => h10 (Lib.byte_eq_of_toNat (b := 10) e)
        by_cases h9 : s[j] = 9
        · have A1 := Lib.hid (AT.out.step (c2 := c + 1) (b2 := bl) hx (by unfold addB; rw [if_neg h10, h9]; simp [blankB]))
          have hc : ((s[j].toNat : Nat) : Int) = 9 := by rw [h9]; rfl
          clear hx h9 h10 hcb
          go_wp2
          go_roundg (s.size - (j + 1))
          case measure => omega
          case rel => exact ⟨j + 1, c + 1, bl, by go_num, rfl, by go_num, by omega, Nat.le_refl _, rfl, A1⟩
        · have hc9 : ¬ ((s[j].toNat : Nat) : Int) = 9 := fun e => h9 (Lib.byte_eq_of_toNat (b := 9) e)
          by_cases h32 : s[j] = 32
          · have A1 := Lib.hid (AT.out.step (c2 := c + 1) (b2 := bl) hx (by unfold addB; rw [if_neg h10, h32]; simp [blankB]))
            have hc : ((s[j].toNat : Nat) : Int) = 32 := by rw [h32]; rfl
            clear hx h32 h9 h10 hcb
            go_wp2
            go_roundg (s.size - (j + 1))
            case measure => omega
            case rel => exact ⟨j + 1, c + 1, bl, by go_num, rfl, by go_num, by omega, Nat.le_refl _, rfl, A1⟩
          · have hc32 : ¬ ((s[j].toNat : Nat) : Int) = 32 := fun e => h32 (Lib.byte_eq_of_toNat (b := 32) e)
            by_cases h255 : s[j] = 255
            · have A1 := Lib.hid (AT.out.step (c2 := c + 1) (b2 := bl) hx (by unfold addB; rw [if_neg h10, h255]; simp [blankB]))
              have hc : ((s[j].toNat : Nat) : Int) = 255 := by rw [h255]; rfl
              clear hx h32 h9 h10 h255 hcb
              go_wp2
              go_roundg (s.size - (j + 1))
              case measure => omega
              case rel => exact ⟨j + 1, c + 1, bl, by go_num, rfl, by go_num, by omega, Nat.le_refl _, rfl, A1⟩
            · have hc255 : ¬ ((s[j].toNat : Nat) : Int) = 255 := fun e => h255 (Lib.byte_eq_of_toNat (b := 255) e)
              have A1 := Lib.hid (AT.out.step (c2 := c + 1) (b2 := false) hx (by unfold addB; rw [if_neg h10]; simp [blankB, h9, h32, h255]))
              clear hx h32 h9 h10 h255 hcb
              go_wp2
              go_roundg (s.size - (j + 1))
              case measure => omega
              case rel => exact ⟨j + 1, c + 1, false, by go_num, rfl, by go_num, by omega, Nat.le_refl _, rfl, A1⟩
    · have hjn : j = s.size := by omega
      obtain ⟨e1, e2⟩ := FIN.out c bl (hjn ▸ AT.out)
      subst e1 e2
      clear HCL CB FIN hjn hcb
      go_wp2
      go_ret2
      exact ⟨by simp, rfl⟩
end Go.Proofs.Ytonhphjejlidiaa
