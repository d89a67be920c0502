/-
  The helpers of the laws of n010_48 that are alike with those of n010_50 (written by gen48.py). Conditions: those in each theorem.
-/
import Derived.Test.YthihppocokkoiaaDoorLwD
namespace Go.Proofs.YthihppocokkoiaaDoor
set_option linter.unusedVariables false
open Go.Shelf Go.RowKit Go.Lib Go.Sort


set_option maxHeartbeats 1000000 in
theorem bytes46 (a : Option Addr) (c : Nat) (P : List ByteArray) (q : ByteArray) (w : World) (hc : P ≠ [] → ∃ b off, a = some ⟨b, off, none⟩ ∧ ∀ j, j < P.length → w.cell? ⟨b, off + j, none⟩ = some (.string (P.getD j ByteArray.empty))) :
    Calls Tryd.prog 46 #[.slice a P.length c, .string q] w fun e w' => GuardSay (Small P ∧ q.size ≤ 1048576) e ∧ w = w' := by
  go_enter Tryd.func46, Tryd.ntmps46
  by_cases hn : (1048576 : Int) < (P.length : Int)
  · go_wp2
    go_ret
    exact ⟨gs_no rfl, rfl⟩
  · go_wp2
    go_loop [5, 6] (fun v5 v6 => ∃ t k : Nat, v5 = .int .i64 t ∧ v6 = .int .i64 k ∧ (t : Int) ≤ 1048576 ∧ (k : Int) ≤ (P.length : Int) ∧ Hid (∀ j, j < k → (P.getD j ByteArray.empty).size ≤ 1048576)) (fun v5 v6 => P.length - (intOf v6).toNat)
    case atStart => exact ⟨P.length, 0, rfl, rfl, by omega, by omega, Lib.hid fun j hj => by omega⟩
    case round =>
      obtain ⟨t, k, rfl, rfl, ht, hk, HS⟩ := hrel
      by_cases hlt : (k : Int) < (P.length : Int)
      · obtain ⟨b, off, rfl, hcell⟩ := hc (by rintro rfl; simp at hlt; omega)
        have hx := hcell k (by omega)
        obtain ⟨s, hs⟩ : ∃ s, s = P.getD k ByteArray.empty := ⟨_, rfl⟩
        rw [← hs] at hx
        have HS2 : Hid (s.size ≤ 1048576 → ∀ j, j < k + 1 → (P.getD j ByteArray.empty).size ≤ 1048576) := Lib.hid fun h j hj => by
          by_cases e : j = k
          · subst e; rw [← hs]; exact h
          · exact HS.out j (by omega)
        clear hc hcell hs
        by_cases c1 : (1048576 : Int) < (s.size : Int)
        · go_wp2
          go_ret
          exact ⟨gs_no rfl, rfl⟩
        · by_cases c2 : (1048576 : Int) < (t : Int) + (s.size : Int)
          · go_wp2
            go_ret
            exact ⟨gs_no rfl, rfl⟩
          · go_wp2
            go_round
            case rel => exact ⟨t + s.size, k + 1, by go_num, by go_num, by omega, by omega, Lib.hid (HS2.out (by omega))⟩
            case measure => simp [intOf]; omega
      · have HF : Hid (Small P) := Lib.hid ⟨by omega, fun j hj => HS.out j (by omega)⟩
        clear hc
        by_cases c1 : (1048576 : Int) < (q.size : Int)
        · go_wp2
          go_ret
          exact ⟨gs_no rfl, rfl⟩
        · by_cases c2 : (1048576 : Int) < (t : Int) + (q.size : Int)
          · go_wp2
            go_ret
            exact ⟨gs_no rfl, rfl⟩
          · go_wp2
            go_ret
            exact ⟨gs_yes rfl ⟨HF.out, by omega⟩, rfl⟩

set_option maxHeartbeats 1000000 in
theorem bytes47 (a : Option Addr) (c : Nat) (P : List ByteArray) (q : ByteArray) (w : World) (hc : P ≠ [] → ∃ b off, a = some ⟨b, off, none⟩ ∧ ∀ j, j < P.length → w.cell? ⟨b, off + j, none⟩ = some (.string (P.getD j ByteArray.empty))) :
    Calls Tryd.prog 47 #[.slice a P.length c, .string q] w fun e w' => GuardSay (Small P ∧ q.size ≤ 1048576) e ∧ w = w' := by
  go_enter Tryd.func47, Tryd.ntmps47
  by_cases hn : (1048576 : Int) < (P.length : Int)
  · go_wp2
    go_ret
    exact ⟨gs_no rfl, rfl⟩
  · go_wp2
    go_loop [5, 6] (fun v5 v6 => ∃ t k : Nat, v5 = .int .i64 t ∧ v6 = .int .i64 k ∧ (t : Int) ≤ 1048576 ∧ (k : Int) ≤ (P.length : Int) ∧ Hid (∀ j, j < k → (P.getD j ByteArray.empty).size ≤ 1048576)) (fun v5 v6 => P.length - (intOf v6).toNat)
    case atStart => exact ⟨P.length, 0, rfl, rfl, by omega, by omega, Lib.hid fun j hj => by omega⟩
    case round =>
      obtain ⟨t, k, rfl, rfl, ht, hk, HS⟩ := hrel
      by_cases hlt : (k : Int) < (P.length : Int)
      · obtain ⟨b, off, rfl, hcell⟩ := hc (by rintro rfl; simp at hlt; omega)
        have hx := hcell k (by omega)
        obtain ⟨s, hs⟩ : ∃ s, s = P.getD k ByteArray.empty := ⟨_, rfl⟩
        rw [← hs] at hx
        have HS2 : Hid (s.size ≤ 1048576 → ∀ j, j < k + 1 → (P.getD j ByteArray.empty).size ≤ 1048576) := Lib.hid fun h j hj => by
          by_cases e : j = k
          · subst e; rw [← hs]; exact h
          · exact HS.out j (by omega)
        clear hc hcell hs
        by_cases c1 : (1048576 : Int) < (s.size : Int)
        · go_wp2
          go_ret
          exact ⟨gs_no rfl, rfl⟩
        · by_cases c2 : (1048576 : Int) < (t : Int) + (s.size : Int)
          · go_wp2
            go_ret
            exact ⟨gs_no rfl, rfl⟩
          · go_wp2
            go_round
            case rel => exact ⟨t + s.size, k + 1, by go_num, by go_num, by omega, by omega, Lib.hid (HS2.out (by omega))⟩
            case measure => simp [intOf]; omega
      · have HF : Hid (Small P) := Lib.hid ⟨by omega, fun j hj => HS.out j (by omega)⟩
        clear hc
        by_cases c1 : (1048576 : Int) < (q.size : Int)
        · go_wp2
          go_ret
          exact ⟨gs_no rfl, rfl⟩
        · by_cases c2 : (1048576 : Int) < (t : Int) + (q.size : Int)
          · go_wp2
            go_ret
            exact ⟨gs_no rfl, rfl⟩
          · go_wp2
            go_ret
            exact ⟨gs_yes rfl ⟨HF.out, by omega⟩, rfl⟩

set_option maxHeartbeats 1000000 in
theorem size38 (a : Option Addr) (c : Nat) (P : List ByteArray) (x : Nat) (w : World) (hx : x ≤ 1048576) (hS : Small P) (hc : P ≠ [] → ∃ b off, a = some ⟨b, off, none⟩ ∧ ∀ j, j < P.length → w.cell? ⟨b, off + j, none⟩ = some (.string (P.getD j ByteArray.empty))) :
    Calls Tryd.prog 38 #[.slice a P.length c, .int .i64 x] w fun e w' => GuardSay True e ∧ w = w' := by
  have hp : (P.length : Int) ≤ 1048576 := by have := hS.1; omega
  have hx' : (x : Int) ≤ 1048576 := by omega
  have hx0 : (0 : Int) ≤ (x : Int) := by omega
  have HP := Lib.hid hS.2
  clear hS hx
  go_enter Tryd.func38, Tryd.ntmps38
  by_cases c0 : (65536 : Int) < (P.length : Int)
  · go_wp2
    go_ret
    exact ⟨⟨_, rfl, fun _ => trivial⟩, rfl⟩
  · by_cases c1 : (1048576 : Int) < (x : Int) + 16 * (P.length : Int)
    · go_wp2
      go_ret
      exact ⟨⟨_, rfl, fun _ => trivial⟩, rfl⟩
    · go_wp2
      go_loop [5, 6] (fun v5 v6 => ∃ t k : Nat, v5 = .int .i64 t ∧ v6 = .int .i64 k ∧ (t : Int) ≤ 1048576 ∧ (k : Int) ≤ (P.length : Int)) (fun v5 v6 => P.length - (intOf v6).toNat)
      case atStart => exact ⟨x + 16 * P.length, 0, by go_num, rfl, by omega, by omega⟩
      case round =>
        obtain ⟨t, k, rfl, rfl, ht, hk⟩ := hrel
        by_cases hlt : (k : Int) < (P.length : Int)
        · obtain ⟨b, off, rfl, hcell⟩ := hc (by rintro rfl; simp at hlt; omega)
          have hx := hcell k (by omega)
          have hsz := HP.out k (by omega)
          obtain ⟨s, hs⟩ : ∃ s, s = P.getD k ByteArray.empty := ⟨_, rfl⟩
          rw [← hs] at hx hsz
          clear hc hcell hs
          by_cases c2 : (1048576 : Int) < (t : Int) + (s.size : Int)
          · go_wp2
            go_ret
            exact ⟨⟨_, rfl, fun _ => trivial⟩, rfl⟩
          · go_wp2
            go_round
            case rel => exact ⟨t + s.size, k + 1, by go_num, by go_num, by omega, by omega⟩
            case measure => simp [intOf]; omega
        · clear hc
          go_wp2
          go_ret
          exact ⟨⟨_, rfl, fun _ => trivial⟩, rfl⟩

set_option maxHeartbeats 400000 in
theorem eq68 (s : ByteArray) (w : World) (hs : s.size ≤ 1073741824) : Calls Tryd.prog 68 #[.string s] w fun e w' => e = .returned (.int .i64 (Envp.eqAt s.data.toList)) ∧ w = w' := by
  go_enter Tryd.func68, Tryd.ntmps68
  go_wp2
  go_loop [3] (fun v3 => ∃ k : Nat, v3 = .int .i64 k ∧ (k : Int) ≤ (s.size : Int) ∧ Hid (∀ j, j < k → s.data.toList[j]? ≠ some 61)) (fun v3 => s.size - (intOf v3).toNat)
  case atStart => exact ⟨0, rfl, by omega, Lib.hid fun j hj => by omega⟩
  case round =>
    obtain ⟨k, rfl, hk, HF⟩ := hrel
    by_cases hlt : (k : Int) < (s.size : Int)
    · have hk' : k < s.size := by omega
      by_cases c : s[k] = 61
      · have R : Hid (((k : Nat) : Int) = Envp.eqAt s.data.toList) := Lib.hid (ib_hit _ k HF.out (by rw [Lib.data_getElem? s k hk', c])).symm
        have c' : ((s[k].toNat : Nat) : Int) = 61 := by rw [c]; rfl
        clear c
        go_wp2
        go_ret
        exact ⟨ret_int R.out, rfl⟩
      · have HF2 := Lib.hid (ib_step s k hk' c HF.out)
        have c' : ¬ ((s[k].toNat : Nat) : Int) = 61 := fun h => c (Lib.byte_eq_of_toNat h)
        clear c
        go_wp2
        go_round
        case rel => exact ⟨k + 1, by go_num, by omega, HF2⟩
        case measure => simp [intOf]; omega
    · have hle : s.data.toList.length = s.size := by simp
      have R : Hid ((-1 : Int) = Envp.eqAt s.data.toList) := Lib.hid (ib_none _ (fun j hj => HF.out j (by omega))).symm
      clear hle
      go_wp2
      go_ret
      exact ⟨ret_int R.out, rfl⟩

set_option maxHeartbeats 1000000 in
theorem zero44 (w : World) : Calls Tryd.prog 44 #[zeroVar] w fun e w' => e = .returned (.bool true) ∧ Below w.heap.size w w' := by
  have q22 : ∀ (w : World) (a : Option Addr) (n c n' c' : Nat), (binOp .eql 22 (.slice a n c) (.slice none n' c')).run Tryd.prog w = .ok (.bool a.isNone) w := fun w a n c n' c' => Lib.run_eql_slice_nil w _ _ a n c n' c' Tryd.underlying22
  have q32 : ∀ (w : World) (a : Option Addr) (n c n' c' : Nat), (binOp .eql 32 (.slice a n c) (.slice none n' c')).run Tryd.prog w = .ok (.bool a.isNone) w := fun w a n c n' c' => Lib.run_eql_slice_nil w _ _ a n c n' c' Tryd.underlying32
  have q31 : ∀ (w : World) (r : Option Nat), (binOp .eql 31 (.map r) (.map none)).run Tryd.prog w = .ok (.bool r.isNone) w := fun w r => run_eql_map_nil w _ _ _ r Tryd.underlying31
  unfold zeroVar
  go_enter Tryd.func44, Tryd.ntmps44
  go_wp2
  all_goals go_ret
  all_goals exact ⟨rfl, by repeat (first | exact Below.refl _ _ | apply Below.drew | (refine Below.alloc ?_ (by simp) _))⟩

set_option maxHeartbeats 1000000 in
theorem str45 (s : ByteArray) (w : World) : Calls Tryd.prog 45 #[strVar s, .string s] w fun e w' => e = .returned (.bool true) ∧ Below w.heap.size w w' := by
  have q22 : ∀ (w : World) (a : Option Addr) (n c n' c' : Nat), (binOp .eql 22 (.slice a n c) (.slice none n' c')).run Tryd.prog w = .ok (.bool a.isNone) w := fun w a n c n' c' => Lib.run_eql_slice_nil w _ _ a n c n' c' Tryd.underlying22
  have q32 : ∀ (w : World) (a : Option Addr) (n c n' c' : Nat), (binOp .eql 32 (.slice a n c) (.slice none n' c')).run Tryd.prog w = .ok (.bool a.isNone) w := fun w a n c n' c' => Lib.run_eql_slice_nil w _ _ a n c n' c' Tryd.underlying32
  have q31 : ∀ (w : World) (r : Option Nat), (binOp .eql 31 (.map r) (.map none)).run Tryd.prog w = .ok (.bool r.isNone) w := fun w r => run_eql_map_nil w _ _ _ r Tryd.underlying31
  have qs : (s.toList == s.toList) = true := by simp
  unfold strVar
  go_enter Tryd.func45, Tryd.ntmps45
  go_wp2
  all_goals go_ret
  all_goals exact ⟨rfl, by repeat (first | exact Below.refl _ _ | apply Below.drew | (refine Below.alloc ?_ (by simp) _))⟩

set_option maxHeartbeats 1000000 in
theorem clone41 (v : Value) (P : List ByteArray) (w : World) (hv : Texts w v P) (hn : P.length ≤ 1048576) :
    Calls Tryd.prog 41 #[v] w fun e w' => (∃ v', e = .returned v' ∧ Texts w' v' P) ∧ Below w.heap.size w w' := by
  obtain ⟨a, c, rfl, hc⟩ := hv
  have q22 : ∀ (w : World) (a : Option Addr) (n c n' c' : Nat), (binOp .eql 22 (.slice a n c) (.slice none n' c')).run Tryd.prog w = .ok (.bool a.isNone) w := fun w a n c n' c' => Lib.run_eql_slice_nil w _ _ a n c n' c' Tryd.underlying22
  cases a with
  | none =>
    have hp : P = [] := by
      cases P with
      | nil => rfl
      | cons x P => obtain ⟨b, off, h, _⟩ := hc (by simp); cases h
    subst hp
    clear hc
    go_enter Tryd.func41, Tryd.ntmps41
    go_wp2
    go_ret
    exact ⟨⟨_, rfl, ⟨none, 0, rfl, fun h => absurd rfl h⟩⟩, Below.refl _ _⟩
  | some x =>
    obtain ⟨cs, hcs, hmk⟩ := make22 w P.length hn
    have hg : (w.alloc (.cells cs 9)).heap[w.heap.size]? = some (.cells cs 9 (0, 0)) := by show (w.heap.push _)[w.heap.size]? = _; exact Array.getElem?_push_size
    have hr : ∀ ty, (Builtin.copy_ #[22, 22] ty #[.slice (some ⟨w.heap.size, 0, none⟩) P.length P.length, .slice (some x) P.length c]).run Tryd.prog (w.alloc (.cells cs 9)) = .ok (goInt P.length) ((w.alloc (.cells cs 9)).setRow w.heap.size (P.map Value.string).toArray) := by
      intro ty
      refine copy22 _ _ cs P x c hg hcs (fun j hj => ?_) ty
      obtain ⟨b, off, hx, hb, hcell⟩ := hc (by rintro rfl; simp at hj)
      cases hx
      rw [show (⟨b, off, none⟩ : Addr).add j = ⟨b, off + j, none⟩ by simp [Addr.add]]
      rw [World.cell?_of_block (w := w) (((Below.refl w.heap.size w).alloc (Nat.le_refl _) _).block b hb)]
      exact hcell j hj
    have HT := Lib.hid (texts_row _ _ _ _ P hg)
    have HB : Hid (Below w.heap.size w ((w.alloc (.cells cs 9)).setRow w.heap.size (P.map Value.string).toArray)) := Lib.hid (below_setRow ((Below.refl w.heap.size w).alloc (Nat.le_refl _) _) (Nat.le_refl _) _)
    generalize hW : w.alloc (.cells cs 9) = W1 at *
    generalize hW2 : W1.setRow w.heap.size (P.map Value.string).toArray = W2 at *
    clear hW hW2 hg hc
    go_enter Tryd.func41, Tryd.ntmps41
    go_wp2_with (at_builtin; refine Lib.wpList_copy_run _ rfl _ _ 22 22 rfl _ _ rfl rfl (hr _) ?_)
    go_ret
    exact ⟨⟨_, rfl, HT.out⟩, HB.out⟩

end Go.Proofs.YthihppocokkoiaaDoor
