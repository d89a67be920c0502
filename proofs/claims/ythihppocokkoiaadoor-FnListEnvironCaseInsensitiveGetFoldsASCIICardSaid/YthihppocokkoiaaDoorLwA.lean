/-
  The walks of the laws' guards: the bound on the lengths, the size, the first '='. Conditions: those in each theorem.
-/
import Derived.Test.YthihppocokkoiaaDoorGetA
namespace Go.Proofs.YthihppocokkoiaaDoor
set_option linter.unusedVariables false
open Go.Shelf Go.RowKit Go.Lib Go.Sort

/-- what the bound on the lengths gives -/
def Small (P : List ByteArray) : Prop := P.length ≤ 1048576 ∧ ∀ j, j < P.length → (P.getD j ByteArray.empty).size ≤ 1048576

/-- a guard says no, or it says yes and Q holds -/
def GuardSay (Q : Prop) (e : Ending) : Prop := ∃ b, e = .returned (.bool b) ∧ (b = true → Q)
theorem gs_no {Q : Prop} {e : Ending} (h : e = .returned (.bool false)) : GuardSay Q e := ⟨false, h, fun h => by cases h⟩
theorem gs_yes {Q : Prop} {e : Ending} (h : e = .returned (.bool true)) (q : Q) : GuardSay Q e := ⟨true, h, fun _ => q⟩

theorem no_bool {Q : Prop} {b : Bool} (h : b = false) : b = true → Q := fun h2 => by rw [h] at h2; cases h2

set_option maxHeartbeats 1000000 in
theorem bytes55 (a : Option Addr) (c : Nat) (P : List ByteArray) (q : ByteArray) (w : World) (hc : P ≠ [] → ∃ b off, a = some ⟨b, off, none⟩ ∧ ∀ j, j < P.length → w.cell? ⟨b, off + j, none⟩ = some (.string (P.getD j ByteArray.empty))) :
    Calls Tryd.prog 55 #[.slice a P.length c, .string q] w fun e w' => GuardSay (Small P ∧ q.size ≤ 1048576) e ∧ w = w' := by
  go_enter Tryd.func55, Tryd.ntmps55
  by_cases hn : (1048576 : Int) < (P.length : Int)
  · go_wp2
    go_ret
    exact ⟨gs_no rfl, rfl⟩
  · go_wp2
    go_loop [5, 6] (fun v5 v6 => ∃ t k : Nat, v5 = .int .i64 t ∧ v6 = .int .i64 k ∧ (t : Int) ≤ 1048576 ∧ (k : Int) ≤ (P.length : Int) ∧ Hid (∀ j, j < k → (P.getD j ByteArray.empty).size ≤ 1048576)) (fun v5 v6 => P.length - (intOf v6).toNat)
    case atStart => exact ⟨P.length, 0, rfl, rfl, by omega, by omega, Lib.hid fun j hj => by omega⟩
    case round =>
      obtain ⟨t, k, rfl, rfl, ht, hk, HS⟩ := hrel
      by_cases hlt : (k : Int) < (P.length : Int)
      · obtain ⟨b, off, rfl, hcell⟩ := hc (by rintro rfl; simp at hlt; omega)
        have hx := hcell k (by omega)
        obtain ⟨s, hs⟩ : ∃ s, s = P.getD k ByteArray.empty := ⟨_, rfl⟩
        rw [← hs] at hx
        have HS2 : Hid (s.size ≤ 1048576 → ∀ j, j < k + 1 → (P.getD j ByteArray.empty).size ≤ 1048576) := Lib.hid fun h j hj => by
          by_cases e : j = k
          · subst e; rw [← hs]; exact h
          · exact HS.out j (by omega)
        clear hc hcell hs
        by_cases c1 : (1048576 : Int) < (s.size : Int)
        · go_wp2
          go_ret
          exact ⟨gs_no rfl, rfl⟩
        · by_cases c2 : (1048576 : Int) < (t : Int) + (s.size : Int)
          · go_wp2
            go_ret
            exact ⟨gs_no rfl, rfl⟩
          · go_wp2
            go_round
            case rel => exact ⟨t + s.size, k + 1, by go_num, by go_num, by omega, by omega, Lib.hid (HS2.out (by omega))⟩
            case measure => simp [intOf]; omega
      · have HF : Hid (Small P) := Lib.hid ⟨by omega, fun j hj => HS.out j (by omega)⟩
        clear hc
        by_cases c1 : (1048576 : Int) < (q.size : Int)
        · go_wp2
          go_ret
          exact ⟨gs_no rfl, rfl⟩
        · by_cases c2 : (1048576 : Int) < (t : Int) + (q.size : Int)
          · go_wp2
            go_ret
            exact ⟨gs_no rfl, rfl⟩
          · go_wp2
            go_ret
            exact ⟨gs_yes rfl ⟨HF.out, by omega⟩, rfl⟩

set_option maxHeartbeats 1000000 in
theorem size56 (a : Option Addr) (c : Nat) (P : List ByteArray) (x : Nat) (w : World) (hx : x ≤ 1048576) (hS : Small P) (hc : P ≠ [] → ∃ b off, a = some ⟨b, off, none⟩ ∧ ∀ j, j < P.length → w.cell? ⟨b, off + j, none⟩ = some (.string (P.getD j ByteArray.empty))) :
    Calls Tryd.prog 56 #[.slice a P.length c, .int .i64 x] w fun e w' => GuardSay True e ∧ w = w' := by
  have hp : (P.length : Int) ≤ 1048576 := by have := hS.1; omega
  have hx' : (x : Int) ≤ 1048576 := by omega
  have hx0 : (0 : Int) ≤ (x : Int) := by omega
  have HP := Lib.hid hS.2
  clear hS hx
  go_enter Tryd.func56, Tryd.ntmps56
  by_cases c0 : (131072 : Int) < (P.length : Int)
  · go_wp2
    go_ret
    exact ⟨⟨_, rfl, fun _ => trivial⟩, rfl⟩
  · by_cases c1 : (1048576 : Int) < (x : Int) + 8 * (P.length : Int)
    · go_wp2
      go_ret
      exact ⟨⟨_, rfl, fun _ => trivial⟩, rfl⟩
    · go_wp2
      go_loop [5, 6] (fun v5 v6 => ∃ t k : Nat, v5 = .int .i64 t ∧ v6 = .int .i64 k ∧ (t : Int) ≤ 1048576 ∧ (k : Int) ≤ (P.length : Int)) (fun v5 v6 => P.length - (intOf v6).toNat)
      case atStart => exact ⟨x + 8 * P.length, 0, by go_num, rfl, by omega, by omega⟩
      case round =>
        obtain ⟨t, k, rfl, rfl, ht, hk⟩ := hrel
        by_cases hlt : (k : Int) < (P.length : Int)
        · obtain ⟨b, off, rfl, hcell⟩ := hc (by rintro rfl; simp at hlt; omega)
          have hx := hcell k (by omega)
          have hsz := HP.out k (by omega)
          obtain ⟨s, hs⟩ : ∃ s, s = P.getD k ByteArray.empty := ⟨_, rfl⟩
          rw [← hs] at hx hsz
          clear hc hcell hs
          by_cases c2 : (1048576 : Int) < (t : Int) + (s.size : Int)
          · go_wp2
            go_ret
            exact ⟨⟨_, rfl, fun _ => trivial⟩, rfl⟩
          · go_wp2
            go_round
            case rel => exact ⟨t + s.size, k + 1, by go_num, by go_num, by omega, by omega⟩
            case measure => simp [intOf]; omega
        · clear hc
          go_wp2
          go_ret
          exact ⟨⟨_, rfl, fun _ => trivial⟩, rfl⟩
end Go.Proofs.YthihppocokkoiaaDoor
