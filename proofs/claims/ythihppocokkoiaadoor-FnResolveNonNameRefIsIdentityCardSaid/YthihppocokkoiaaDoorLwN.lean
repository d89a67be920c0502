/-
  The walk of the bound on the lengths with three strings beside the slice. Conditions: those in each theorem.
-/
import Derived.Test.YthihppocokkoiaaDoorLw9
import Derived.Test.YthihppocokkoiaaDoorLw8
namespace Go.Proofs.YthihppocokkoiaaDoor
set_option linter.unusedVariables false
open Go.Shelf Go.RowKit Go.Lib Go.Sort

set_option maxRecDepth 20000 in
set_option maxHeartbeats 2000000 in
theorem bytes53 (a : Option Addr) (c : Nat) (P : List ByteArray) (q x y : ByteArray) (w : World) (hc : P ≠ [] → ∃ b off, a = some ⟨b, off, none⟩ ∧ ∀ j, j < P.length → w.cell? ⟨b, off + j, none⟩ = some (.string (P.getD j ByteArray.empty))) :
    Calls Tryd.prog 53 #[.slice a P.length c, .string q, .string x, .string y] w fun e w' => GuardSay (Small P ∧ q.size ≤ 1048576 ∧ x.size ≤ 1048576 ∧ y.size ≤ 1048576) e ∧ w = w' := by
  go_enter Tryd.func53, Tryd.ntmps53
  by_cases hn : (1048576 : Int) < (P.length : Int)
  · go_wp2
    go_ret
    exact ⟨gs_no rfl, rfl⟩
  · go_wp2
    go_loop [9, 10] (fun v5 v6 => ∃ t k : Nat, v5 = .int .i64 t ∧ v6 = .int .i64 k ∧ (t : Int) ≤ 1048576 ∧ (k : Int) ≤ (P.length : Int) ∧ Hid (∀ j, j < k → (P.getD j ByteArray.empty).size ≤ 1048576)) (fun v5 v6 => P.length - (intOf v6).toNat)
    case atStart => exact ⟨P.length, 0, rfl, rfl, by omega, by omega, Lib.hid fun j hj => by omega⟩
    case round =>
      obtain ⟨t, k, rfl, rfl, ht, hk, HS⟩ := hrel
      by_cases hlt : (k : Int) < (P.length : Int)
      · obtain ⟨b, off, rfl, hcell⟩ := hc (by rintro rfl; simp at hlt; omega)
        have hx := hcell k (by omega)
        obtain ⟨s, hs⟩ : ∃ s, s = P.getD k ByteArray.empty := ⟨_, rfl⟩
        rw [← hs] at hx
        have HS2 : Hid (s.size ≤ 1048576 → ∀ j, j < k + 1 → (P.getD j ByteArray.empty).size ≤ 1048576) := Lib.hid fun h j hj => by
          by_cases e : j = k
          · subst e; rw [← hs]; exact h
          · exact HS.out j (by omega)
        clear hc hcell hs
        by_cases c1 : (1048576 : Int) < (s.size : Int)
        · go_wp2
          go_ret
          exact ⟨gs_no rfl, rfl⟩
        · by_cases c2 : (1048576 : Int) < (t : Int) + (s.size : Int)
          · go_wp2
            go_ret
            exact ⟨gs_no rfl, rfl⟩
          · go_wp2
            go_round
            case rel => exact ⟨t + s.size, k + 1, by go_num, by go_num, by omega, by omega, Lib.hid (HS2.out (by omega))⟩
            case measure => simp [intOf]; omega
      · have HF : Hid (Small P) := Lib.hid ⟨by omega, fun j hj => HS.out j (by omega)⟩
        clear hc
        by_cases c1 : (1048576 : Int) < (q.size : Int)
        · go_wp2
          go_ret
          exact ⟨gs_no rfl, rfl⟩
        · by_cases c2 : (1048576 : Int) < (t : Int) + (q.size : Int)
          · go_wp2
            go_ret
            exact ⟨gs_no rfl, rfl⟩
          · by_cases c3 : (1048576 : Int) < (x.size : Int)
            · go_wp2
              go_ret
              exact ⟨gs_no rfl, rfl⟩
            · by_cases c4 : (1048576 : Int) < (t : Int) + (q.size : Int) + (x.size : Int)
              · go_wp2
                go_ret
                exact ⟨gs_no rfl, rfl⟩
              · by_cases c5 : (1048576 : Int) < (y.size : Int)
                · go_wp2
                  go_ret
                  exact ⟨gs_no rfl, rfl⟩
                · by_cases c6 : (1048576 : Int) < (t : Int) + (q.size : Int) + (x.size : Int) + (y.size : Int)
                  · go_wp2
                    go_ret
                    exact ⟨gs_no rfl, rfl⟩
                  · go_wp2
                    go_ret
                    exact ⟨gs_yes rfl ⟨HF.out, by omega, by omega, by omega⟩, rfl⟩

set_option maxRecDepth 20000 in
set_option maxHeartbeats 4000000 in
theorem same54s (s : ByteArray) (w : World) : Calls Tryd.prog 54 #[strVar s, strVar s] w fun e w' => e = .returned (.bool true) ∧ Below w.heap.size w w' := by
  have q22 : ∀ (w : World) (a : Option Addr) (n c n' c' : Nat), (binOp .eql 22 (.slice a n c) (.slice none n' c')).run Tryd.prog w = .ok (.bool a.isNone) w := fun w a n c n' c' => Lib.run_eql_slice_nil w _ _ a n c n' c' Tryd.underlying22
  have q32 : ∀ (w : World) (a : Option Addr) (n c n' c' : Nat), (binOp .eql 32 (.slice a n c) (.slice none n' c')).run Tryd.prog w = .ok (.bool a.isNone) w := fun w a n c n' c' => Lib.run_eql_slice_nil w _ _ a n c n' c' Tryd.underlying32
  have q31 : ∀ (w : World) (r : Option Nat), (binOp .eql 31 (.map r) (.map none)).run Tryd.prog w = .ok (.bool r.isNone) w := fun w r => run_eql_map_nil w _ _ _ r Tryd.underlying31
  have qs : (s.toList == s.toList) = true := by simp
  unfold strVar
  go_enter Tryd.func54, Tryd.ntmps54
  go_wp2
  all_goals go_ret
  all_goals exact ⟨rfl, by repeat (first | exact Below.refl _ _ | apply Below.drew | (refine Below.alloc ?_ (by simp) _))⟩
set_option maxRecDepth 20000 in
set_option maxHeartbeats 4000000 in
theorem same54z (w : World) : Calls Tryd.prog 54 #[zeroVar, zeroVar] w fun e w' => e = .returned (.bool true) ∧ Below w.heap.size w w' := by
  have q22 : ∀ (w : World) (a : Option Addr) (n c n' c' : Nat), (binOp .eql 22 (.slice a n c) (.slice none n' c')).run Tryd.prog w = .ok (.bool a.isNone) w := fun w a n c n' c' => Lib.run_eql_slice_nil w _ _ a n c n' c' Tryd.underlying22
  have q32 : ∀ (w : World) (a : Option Addr) (n c n' c' : Nat), (binOp .eql 32 (.slice a n c) (.slice none n' c')).run Tryd.prog w = .ok (.bool a.isNone) w := fun w a n c n' c' => Lib.run_eql_slice_nil w _ _ a n c n' c' Tryd.underlying32
  have q31 : ∀ (w : World) (r : Option Nat), (binOp .eql 31 (.map r) (.map none)).run Tryd.prog w = .ok (.bool r.isNone) w := fun w r => run_eql_map_nil w _ _ _ r Tryd.underlying31
  unfold zeroVar
  go_enter Tryd.func54, Tryd.ntmps54
  go_wp2
  all_goals go_ret
  all_goals exact ⟨rfl, by repeat (first | exact Below.refl _ _ | apply Below.drew | (refine Below.alloc ?_ (by simp) _))⟩
end Go.Proofs.YthihppocokkoiaaDoor
