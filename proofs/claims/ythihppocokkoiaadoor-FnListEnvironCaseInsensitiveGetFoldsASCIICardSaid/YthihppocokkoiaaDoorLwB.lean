/-
  The walks of the first '=', of the two looks at a Variable, and of the exported door to Get. Conditions: those in each theorem.
-/
import Derived.Test.YthihppocokkoiaaDoorLwA
import Derived.Lib.SliceRun
namespace Go.Proofs.YthihppocokkoiaaDoor
set_option linter.unusedVariables false
open Go.Shelf Go.RowKit Go.Lib Go.Sort

theorem ib_step (s : ByteArray) (k : Nat) (h : k < s.size) (hne : s[k] ≠ 61) (HF : ∀ j, j < k → s.data.toList[j]? ≠ some 61) : ∀ j, j < k + 1 → s.data.toList[j]? ≠ some 61 := by
  intro j hj
  by_cases e : j = k
  · subst e; rw [Lib.data_getElem? s j h]; intro h2; exact hne (Option.some.inj h2)
  · exact HF j (by omega)
theorem ib_hit : ∀ (l : List UInt8) (k : Nat), (∀ j, j < k → l[j]? ≠ some 61) → l[k]? = some 61 → indexByte l 61 = k := by
  intro l k
  induction l generalizing k with
  | nil => intro _ h; simp at h
  | cons x l ih =>
    intro h1 h2
    cases k with
    | zero =>
      simp only [List.getElem?_cons_zero, Option.some.injEq] at h2
      subst h2
      simp [indexByte]
    | succ k =>
      have h0 := h1 0 (by omega)
      simp only [List.getElem?_cons_zero, ne_eq, Option.some.injEq] at h0
      have := ih k (fun j hj => by have := h1 (j + 1) (by omega); simpa using this) (by simpa using h2)
      simp [indexByte, h0, this]
theorem ib_none : ∀ (l : List UInt8), (∀ j, j < l.length → l[j]? ≠ some 61) → indexByte l 61 = -1 := by
  intro l
  induction l with
  | nil => intro _; rfl
  | cons x l ih =>
    intro h1
    have h0 := h1 0 (by simp)
    simp only [List.getElem?_cons_zero, ne_eq, Option.some.injEq] at h0
    have := ih (fun j hj => by have := h1 (j + 1) (by simpa using hj); simpa using this)
    simp [indexByte, h0, this]

set_option maxHeartbeats 400000 in
theorem eq57 (s : ByteArray) (w : World) (hs : s.size ≤ 1073741824) : Calls Tryd.prog 57 #[.string s] w fun e w' => e = .returned (.int .i64 (Envp.eqAt s.data.toList)) ∧ w = w' := by
  go_enter Tryd.func57, Tryd.ntmps57
  go_wp2
  go_loop [3] (fun v3 => ∃ k : Nat, v3 = .int .i64 k ∧ (k : Int) ≤ (s.size : Int) ∧ Hid (∀ j, j < k → s.data.toList[j]? ≠ some 61)) (fun v3 => s.size - (intOf v3).toNat)
  case atStart => exact ⟨0, rfl, by omega, Lib.hid fun j hj => by omega⟩
  case round =>
    obtain ⟨k, rfl, hk, HF⟩ := hrel
    by_cases hlt : (k : Int) < (s.size : Int)
    · have hk' : k < s.size := by omega
      by_cases c : s[k] = 61
      · have R : Hid (((k : Nat) : Int) = Envp.eqAt s.data.toList) := Lib.hid (ib_hit _ k HF.out (by rw [Lib.data_getElem? s k hk', c])).symm
        have c' : ((s[k].toNat : Nat) : Int) = 61 := by rw [c]; rfl
        clear c
        go_wp2
        go_ret
        exact ⟨ret_int R.out, rfl⟩
      · have HF2 := Lib.hid (ib_step s k hk' c HF.out)
        have c' : ¬ ((s[k].toNat : Nat) : Int) = 61 := fun h => c (Lib.byte_eq_of_toNat h)
        clear c
        go_wp2
        go_round
        case rel => exact ⟨k + 1, by go_num, by omega, HF2⟩
        case measure => simp [intOf]; omega
    · have hle : s.data.toList.length = s.size := by simp
      have R : Hid ((-1 : Int) = Envp.eqAt s.data.toList) := Lib.hid (ib_none _ (fun j hj => HF.out j (by omega))).symm
      clear hle
      go_wp2
      go_ret
      exact ⟨ret_int R.out, rfl⟩

set_option maxHeartbeats 1000000 in
theorem zero60 (w : World) : Calls Tryd.prog 60 #[zeroVar] w fun e w' => e = .returned (.bool true) ∧ Below w.heap.size w w' := by
  have q22 : ∀ (w : World) (a : Option Addr) (n c n' c' : Nat), (binOp .eql 22 (.slice a n c) (.slice none n' c')).run Tryd.prog w = .ok (.bool a.isNone) w := fun w a n c n' c' => Lib.run_eql_slice_nil w _ _ a n c n' c' Tryd.underlying22
  have q32 : ∀ (w : World) (a : Option Addr) (n c n' c' : Nat), (binOp .eql 32 (.slice a n c) (.slice none n' c')).run Tryd.prog w = .ok (.bool a.isNone) w := fun w a n c n' c' => Lib.run_eql_slice_nil w _ _ a n c n' c' Tryd.underlying32
  have q31 : ∀ (w : World) (r : Option Nat), (binOp .eql 31 (.map r) (.map none)).run Tryd.prog w = .ok (.bool r.isNone) w := fun w r => run_eql_map_nil w _ _ _ r Tryd.underlying31
  unfold zeroVar
  go_enter Tryd.func60, Tryd.ntmps60
  go_wp2
  all_goals go_ret
  all_goals exact ⟨rfl, by repeat (first | exact Below.refl _ _ | apply Below.drew | (refine Below.alloc ?_ (by simp) _))⟩

set_option maxHeartbeats 1000000 in
theorem str61 (s : ByteArray) (w : World) : Calls Tryd.prog 61 #[strVar s, .string s] w fun e w' => e = .returned (.bool true) ∧ Below w.heap.size w w' := by
  have q22 : ∀ (w : World) (a : Option Addr) (n c n' c' : Nat), (binOp .eql 22 (.slice a n c) (.slice none n' c')).run Tryd.prog w = .ok (.bool a.isNone) w := fun w a n c n' c' => Lib.run_eql_slice_nil w _ _ a n c n' c' Tryd.underlying22
  have q32 : ∀ (w : World) (a : Option Addr) (n c n' c' : Nat), (binOp .eql 32 (.slice a n c) (.slice none n' c')).run Tryd.prog w = .ok (.bool a.isNone) w := fun w a n c n' c' => Lib.run_eql_slice_nil w _ _ a n c n' c' Tryd.underlying32
  have q31 : ∀ (w : World) (r : Option Nat), (binOp .eql 31 (.map r) (.map none)).run Tryd.prog w = .ok (.bool r.isNone) w := fun w r => run_eql_map_nil w _ _ _ r Tryd.underlying31
  have qs : (s.toList == s.toList) = true := by simp
  unfold strVar
  go_enter Tryd.func61, Tryd.ntmps61
  go_wp2
  all_goals go_ret
  all_goals exact ⟨rfl, by repeat (first | exact Below.refl _ _ | apply Below.drew | (refine Below.alloc ?_ (by simp) _))⟩
end Go.Proofs.YthihppocokkoiaaDoor
