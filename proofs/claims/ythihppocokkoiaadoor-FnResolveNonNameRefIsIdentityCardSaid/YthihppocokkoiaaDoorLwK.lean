/-
  The walk of the bound on the lengths with three strings beside the slice. Conditions: those in each theorem.
-/
import Derived.Test.YthihppocokkoiaaDoorLwA
namespace Go.Proofs.YthihppocokkoiaaDoor
set_option linter.unusedVariables false
open Go.Shelf Go.RowKit Go.Lib Go.Sort

set_option maxRecDepth 20000 in
set_option maxHeartbeats 2000000 in
theorem bytes49 (a : Option Addr) (c : Nat) (P : List ByteArray) (q x y : ByteArray) (w : World) (hc : P ≠ [] → ∃ b off, a = some ⟨b, off, none⟩ ∧ ∀ j, j < P.length → w.cell? ⟨b, off + j, none⟩ = some (.string (P.getD j ByteArray.empty))) :
    Calls Tryd.prog 49 #[.slice a P.length c, .string q, .string x, .string y] w fun e w' => GuardSay (Small P ∧ q.size ≤ 1048576 ∧ x.size ≤ 1048576 ∧ y.size ≤ 1048576) e ∧ w = w' := by
  go_enter Tryd.func49, Tryd.ntmps49
  by_cases hn : (1048576 : Int) < (P.length : Int)
  · go_wp2
    go_ret
    exact ⟨gs_no rfl, rfl⟩
  · go_wp2
    go_loop [9, 10] (fun v5 v6 => ∃ t k : Nat, v5 = .int .i64 t ∧ v6 = .int .i64 k ∧ (t : Int) ≤ 1048576 ∧ (k : Int) ≤ (P.length : Int) ∧ Hid (∀ j, j < k → (P.getD j ByteArray.empty).size ≤ 1048576)) (fun v5 v6 => P.length - (intOf v6).toNat)
    case atStart => exact ⟨P.length, 0, rfl, rfl, by omega, by omega, Lib.hid fun j hj => by omega⟩
    case round =>
      obtain ⟨t, k, rfl, rfl, ht, hk, HS⟩ := hrel
      by_cases hlt : (k : Int) < (P.length : Int)
      · obtain ⟨b, off, rfl, hcell⟩ := hc (by rintro rfl; simp at hlt; omega)
        have hx := hcell k (by omega)
        obtain ⟨s, hs⟩ : ∃ s, s = P.getD k ByteArray.empty := ⟨_, rfl⟩
        rw [← hs] at hx
        have HS2 : Hid (s.size ≤ 1048576 → ∀ j, j < k + 1 → (P.getD j ByteArray.empty).size ≤ 1048576) := Lib.hid fun h j hj => by
          by_cases e : j = k
          · subst e; rw [← hs]; exact h
          · exact HS.out j (by omega)
        clear hc hcell hs
        by_cases c1 : (1048576 : Int) < (s.size : Int)
        · go_wp2
          go_ret
          exact ⟨gs_no rfl, rfl⟩
        · by_cases c2 : (1048576 : Int) < (t : Int) + (s.size : Int)
          · go_wp2
            go_ret
            exact ⟨gs_no rfl, rfl⟩
          · go_wp2
            go_round
            case rel => exact ⟨t + s.size, k + 1, by go_num, by go_num, by omega, by omega, Lib.hid (HS2.out (by omega))⟩
            case measure => simp [intOf]; omega
      · have HF : Hid (Small P) := Lib.hid ⟨by omega, fun j hj => HS.out j (by omega)⟩
        clear hc
        by_cases c1 : (1048576 : Int) < (q.size : Int)
        · go_wp2
          go_ret
          exact ⟨gs_no rfl, rfl⟩
        · by_cases c2 : (1048576 : Int) < (t : Int) + (q.size : Int)
          · go_wp2
            go_ret
            exact ⟨gs_no rfl, rfl⟩
          · by_cases c3 : (1048576 : Int) < (x.size : Int)
            · go_wp2
              go_ret
              exact ⟨gs_no rfl, rfl⟩
            · by_cases c4 : (1048576 : Int) < (t : Int) + (q.size : Int) + (x.size : Int)
              · go_wp2
                go_ret
                exact ⟨gs_no rfl, rfl⟩
              · by_cases c5 : (1048576 : Int) < (y.size : Int)
                · go_wp2
                  go_ret
                  exact ⟨gs_no rfl, rfl⟩
                · by_cases c6 : (1048576 : Int) < (t : Int) + (q.size : Int) + (x.size : Int) + (y.size : Int)
                  · go_wp2
                    go_ret
                    exact ⟨gs_no rfl, rfl⟩
                  · go_wp2
                    go_ret
                    exact ⟨gs_yes rfl ⟨HF.out, by omega, by omega, by omega⟩, rfl⟩
end Go.Proofs.YthihppocokkoiaaDoor
