/-
  The helpers of the laws of n010_40 (written by genQ.py, most of them turned from the like helpers). Conditions: those in each theorem.
-/
import Derived.Test.YthihppocokkoiaaDoorLwP
namespace Go.Proofs.YthihppocokkoiaaDoor
set_option linter.unusedVariables false
open Go.Shelf Go.RowKit Go.Lib Go.Sort

set_option maxHeartbeats 1000000 in
theorem bytes15 (a : Option Addr) (c : Nat) (P : List ByteArray) (q : ByteArray) (x y : Bool) (w : World) (hc : P ≠ [] → ∃ b off, a = some ⟨b, off, none⟩ ∧ ∀ j, j < P.length → w.cell? ⟨b, off + j, none⟩ = some (.string (P.getD j ByteArray.empty))) :
    Calls Tryd.prog 15 #[.slice a P.length c, .string q, .bool x, .bool y] w fun e w' => GuardSay (Small P ∧ q.size ≤ 1048576) e ∧ w = w' := by
  go_enter Tryd.func15, Tryd.ntmps15
  by_cases hn : (1048576 : Int) < (P.length : Int)
  · go_wp2
    go_ret
    exact ⟨gs_no rfl, rfl⟩
  · go_wp2
    go_loop [9, 10] (fun v5 v6 => ∃ t k : Nat, v5 = .int .i64 t ∧ v6 = .int .i64 k ∧ (t : Int) ≤ 1048576 ∧ (k : Int) ≤ (P.length : Int) ∧ Hid (∀ j, j < k → (P.getD j ByteArray.empty).size ≤ 1048576)) (fun v5 v6 => P.length - (intOf v6).toNat)
    case atStart => exact ⟨P.length, 0, rfl, rfl, by omega, by omega, Lib.hid fun j hj => by omega⟩
    case round =>
      obtain ⟨t, k, rfl, rfl, ht, hk, HS⟩ := hrel
      by_cases hlt : (k : Int) < (P.length : Int)
      · obtain ⟨b, off, rfl, hcell⟩ := hc (by rintro rfl; simp at hlt; omega)
        have hx := hcell k (by omega)
        obtain ⟨s, hs⟩ : ∃ s, s = P.getD k ByteArray.empty := ⟨_, rfl⟩
        rw [← hs] at hx
        have HS2 : Hid (s.size ≤ 1048576 → ∀ j, j < k + 1 → (P.getD j ByteArray.empty).size ≤ 1048576) := Lib.hid fun h j hj => by
          by_cases e : j = k
          · subst e; rw [← hs]; exact h
          · exact HS.out j (by omega)
        clear hc hcell hs
        by_cases c1 : (1048576 : Int) < (s.size : Int)
        · go_wp2
          go_ret
          exact ⟨gs_no rfl, rfl⟩
        · by_cases c2 : (1048576 : Int) < (t : Int) + (s.size : Int)
          · go_wp2
            go_ret
            exact ⟨gs_no rfl, rfl⟩
          · go_wp2
            go_round
            case rel => exact ⟨t + s.size, k + 1, by go_num, by go_num, by omega, by omega, Lib.hid (HS2.out (by omega))⟩
            case measure => simp [intOf]; omega
      · have HF : Hid (Small P) := Lib.hid ⟨by omega, fun j hj => HS.out j (by omega)⟩
        clear hc
        by_cases c1 : (1048576 : Int) < (q.size : Int)
        · go_wp2
          go_ret
          exact ⟨gs_no rfl, rfl⟩
        · by_cases c2 : (1048576 : Int) < (t : Int) + (q.size : Int)
          · go_wp2
            go_ret
            exact ⟨gs_no rfl, rfl⟩
          · go_wp2
            go_ret
            exact ⟨gs_yes rfl ⟨HF.out, by omega⟩, rfl⟩

set_option maxRecDepth 20000 in
set_option maxHeartbeats 1000000 in
theorem copy18 (v : Value) (P : List ByteArray) (w : World) (hv : Texts w v P) (hn : P.length ≤ 1048576) :
    Calls Tryd.prog 18 #[v] w (CopyOut w P) := by
  obtain ⟨a, c, rfl, hc⟩ := hv
  have q22 : ∀ (w : World) (a : Option Addr) (n c n' c' : Nat), (binOp .eql 22 (.slice a n c) (.slice none n' c')).run Tryd.prog w = .ok (.bool a.isNone) w := fun w a n c n' c' => Lib.run_eql_slice_nil w _ _ a n c n' c' Tryd.underlying22
  cases a with
  | none =>
    have hp : P = [] := by
      cases P with
      | nil => rfl
      | cons x P => obtain ⟨b, off, h, _⟩ := hc (by simp); cases h
    subst hp
    clear hc
    go_enter Tryd.func18, Tryd.ntmps18
    go_wp2
    go_ret
    exact ⟨⟨_, rfl, ⟨none, 0, rfl, fun h => absurd rfl h⟩⟩, Below.refl _ _⟩
  | some x =>
    obtain ⟨cs, hcs, hmk⟩ := make22 w P.length hn
    have C0 : Hid (CopyAt P w w.heap.size 0 cs (w.alloc (.cells cs 9))) := Lib.hid ⟨hcs, by show (w.heap.push _)[w.heap.size]? = _; exact Array.getElem?_push_size, fun j hj => by omega, (Below.refl _ _).alloc (Nat.le_refl _) _⟩
    have hn' : (P.length : Int) ≤ 1048576 := by omega
    generalize hW : w.alloc (.cells cs 9) = W1 at *
    have HC := Lib.hid hc
    clear hW hcs hc
    go_enter Tryd.func18, Tryd.ntmps18
    go_wp2
    go_loopg [4] (P.length) (fun g v4 wr => ∃ (k : Nat) (ck : Array Value), v4 = .int .i64 k ∧ (k : Int) ≤ (P.length : Int) ∧ P.length - k ≤ g ∧ Hid (CopyAt P w w.heap.size k ck wr))
    case atStart => exact ⟨0, cs, rfl, by omega, by omega, C0⟩
    case round =>
      clear C0 hmk
      obtain ⟨k, ck, rfl, hk, hg, CK⟩ := hrel
      by_cases hlt : (k : Int) < (P.length : Int)
      · have hkn : k < P.length := by omega
        obtain ⟨bb, off, hxx, hbb, hcell⟩ := HC.out (by rintro rfl; simp at hkn)
        cases hxx
        have hx := hcell k hkn
        rw [← World.cell?_of_block (w := w) (w' := wr) (a := ⟨bb, off + k, none⟩) (CK.out.below.block bb hbb)] at hx
        have hkc : k < ck.size := by rw [CK.out.size]; exact hkn
        have hy : wr.cell? ⟨w.heap.size, k, none⟩ = some ck[k] := cell_heap CK.out.heap k _ (Array.getElem?_eq_getElem hkc)
        have hf : wr.frozen? ⟨w.heap.size, k, none⟩ = false := frozen_heap CK.out.heap k
        have C2 := Lib.hid (CK.out.step hkn)
        generalize hp : P.getD k ByteArray.empty = p at hx C2
        generalize ck.setIfInBounds k (.string p) = ck2 at C2
        generalize ck[k] = old at hy
        clear hcell hp CK hkc
        go_wp2
        go_roundg (P.length - (k + 1))
        case measure => omega
        case rel => exact ⟨k + 1, ck2, by go_num, by omega, Nat.le_refl _, (by first | exact C2 | exact Lib.hid C2.out.drew)⟩
      · have hkk : k = P.length := by omega
        have TX : Hid (Texts wr (.slice (some ⟨w.heap.size, 0, none⟩) P.length P.length) P) := Lib.hid (by have h := CK.out; rw [hkk] at h; exact h.texts)
        have BW := Lib.hid CK.out.below
        clear CK HC hkk
        go_wp2
        go_ret
        exact ⟨⟨_, rfl, TX.out⟩, BW.out⟩

set_option maxHeartbeats 1000000 in
theorem zero21 (w : World) : Calls Tryd.prog 21 #[zeroVar] w fun e w' => e = .returned (.bool true) ∧ Below w.heap.size w w' := by
  have q22 : ∀ (w : World) (a : Option Addr) (n c n' c' : Nat), (binOp .eql 22 (.slice a n c) (.slice none n' c')).run Tryd.prog w = .ok (.bool a.isNone) w := fun w a n c n' c' => Lib.run_eql_slice_nil w _ _ a n c n' c' Tryd.underlying22
  have q32 : ∀ (w : World) (a : Option Addr) (n c n' c' : Nat), (binOp .eql 32 (.slice a n c) (.slice none n' c')).run Tryd.prog w = .ok (.bool a.isNone) w := fun w a n c n' c' => Lib.run_eql_slice_nil w _ _ a n c n' c' Tryd.underlying32
  have q31 : ∀ (w : World) (r : Option Nat), (binOp .eql 31 (.map r) (.map none)).run Tryd.prog w = .ok (.bool r.isNone) w := fun w r => run_eql_map_nil w _ _ _ r Tryd.underlying31
  unfold zeroVar
  go_enter Tryd.func21, Tryd.ntmps21
  go_wp2
  all_goals go_ret
  all_goals exact ⟨rfl, by repeat (first | exact Below.refl _ _ | apply Below.drew | (refine Below.alloc ?_ (by simp) _))⟩

set_option maxHeartbeats 1000000 in
theorem str22 (s : ByteArray) (w : World) : Calls Tryd.prog 22 #[strVar s, .string s] w fun e w' => e = .returned (.bool true) ∧ Below w.heap.size w w' := by
  have q22 : ∀ (w : World) (a : Option Addr) (n c n' c' : Nat), (binOp .eql 22 (.slice a n c) (.slice none n' c')).run Tryd.prog w = .ok (.bool a.isNone) w := fun w a n c n' c' => Lib.run_eql_slice_nil w _ _ a n c n' c' Tryd.underlying22
  have q32 : ∀ (w : World) (a : Option Addr) (n c n' c' : Nat), (binOp .eql 32 (.slice a n c) (.slice none n' c')).run Tryd.prog w = .ok (.bool a.isNone) w := fun w a n c n' c' => Lib.run_eql_slice_nil w _ _ a n c n' c' Tryd.underlying32
  have q31 : ∀ (w : World) (r : Option Nat), (binOp .eql 31 (.map r) (.map none)).run Tryd.prog w = .ok (.bool r.isNone) w := fun w r => run_eql_map_nil w _ _ _ r Tryd.underlying31
  have qs : (s.toList == s.toList) = true := by simp
  unfold strVar
  go_enter Tryd.func22, Tryd.ntmps22
  go_wp2
  all_goals go_ret
  all_goals exact ⟨rfl, by repeat (first | exact Below.refl _ _ | apply Below.drew | (refine Below.alloc ?_ (by simp) _))⟩

set_option maxRecDepth 20000 in
set_option maxHeartbeats 4000000 in
theorem eq34nil (w : World) : Calls Tryd.prog 34 #[.slice none 0 0, .slice none 0 0] w fun e w' => e = .returned (.bool true) ∧ w = w' := by
  have q22 : ∀ (w : World) (a : Option Addr) (n c n' c' : Nat), (binOp .eql 22 (.slice a n c) (.slice none n' c')).run Tryd.prog w = .ok (.bool a.isNone) w := fun w a n c n' c' => Lib.run_eql_slice_nil w _ _ a n c n' c' Tryd.underlying22
  go_enter Tryd.func34, Tryd.ntmps34
  go_wp2
  refine wp_loop_rounds 1 ?_
  rw [rounds_succ]
  go_wp2
  go_ret
  exact ⟨rfl, rfl⟩
set_option maxRecDepth 20000 in
set_option maxHeartbeats 4000000 in
theorem eq35nil (w : World) : Calls Tryd.prog 35 #[.slice none 0 0, .slice none 0 0] w fun e w' => e = .returned (.bool true) ∧ w = w' := by
  have q32 : ∀ (w : World) (a : Option Addr) (n c n' c' : Nat), (binOp .eql 32 (.slice a n c) (.slice none n' c')).run Tryd.prog w = .ok (.bool a.isNone) w := fun w a n c n' c' => Lib.run_eql_slice_nil w _ _ a n c n' c' Tryd.underlying32
  go_enter Tryd.func35, Tryd.ntmps35
  go_wp2
  refine wp_loop_rounds 1 ?_
  rw [rounds_succ]
  go_wp2
  go_ret
  exact ⟨rfl, rfl⟩
set_option maxRecDepth 20000 in
set_option maxHeartbeats 8000000 in
theorem same23s (s : ByteArray) (w : World) : Calls Tryd.prog 23 #[strVar s, strVar s] w fun e w' => e = .returned (.bool true) ∧ Below w.heap.size w w' := by
  have q31 : ∀ (w : World) (r : Option Nat), (binOp .eql 31 (.map r) (.map none)).run Tryd.prog w = .ok (.bool r.isNone) w := fun w r => run_eql_map_nil w _ _ _ r Tryd.underlying31
  have qs : (s.toList == s.toList) = true := by simp
  unfold strVar
  go_enter Tryd.func23, Tryd.ntmps23
  go_wp2_with (first | (go_at_call 34; refine (eq34nil _).mono ?_; rintro e w1 ⟨rfl, rfl⟩) | (go_at_call 35; refine (eq35nil _).mono ?_; rintro e w1 ⟨rfl, rfl⟩))
  all_goals go_ret
  all_goals exact ⟨rfl, by repeat (first | exact Below.refl _ _ | apply Below.drew | (refine Below.alloc ?_ (by simp) _))⟩
set_option maxRecDepth 20000 in
set_option maxHeartbeats 8000000 in
theorem same23z (w : World) : Calls Tryd.prog 23 #[zeroVar, zeroVar] w fun e w' => e = .returned (.bool true) ∧ Below w.heap.size w w' := by
  have q31 : ∀ (w : World) (r : Option Nat), (binOp .eql 31 (.map r) (.map none)).run Tryd.prog w = .ok (.bool r.isNone) w := fun w r => run_eql_map_nil w _ _ _ r Tryd.underlying31
  unfold zeroVar
  go_enter Tryd.func23, Tryd.ntmps23
  go_wp2_with (first | (go_at_call 34; refine (eq34nil _).mono ?_; rintro e w1 ⟨rfl, rfl⟩) | (go_at_call 35; refine (eq35nil _).mono ?_; rintro e w1 ⟨rfl, rfl⟩))
  all_goals go_ret
  all_goals exact ⟨rfl, by repeat (first | exact Below.refl _ _ | apply Below.drew | (refine Below.alloc ?_ (by simp) _))⟩
theorem same23a (o : Option (List UInt8)) (n : Nat) (w : World) : Calls Tryd.prog 23 #[answer o n, answer o n] w fun e w' => e = .returned (.bool true) ∧ Below w.heap.size w w' := by
  cases o with
  | none => exact same23z w
  | some x => exact same23s _ w

/-- it says no, and there is no '=' -/
def HasSay (s : ByteArray) (e : Ending) : Prop := ∃ b, e = .returned (.bool b) ∧ (b = false → NoEq s)
/-- a bounded count -/
def Cnt (e : Ending) : Prop := ∃ n : Nat, e = .returned (.int .i64 n) ∧ (n : Int) ≤ 8388608
theorem cnt_mk {e : Ending} {n : Nat} (h : e = .returned (.int .i64 n)) (b : (n : Int) ≤ 8388608) : Cnt e := ⟨n, h, b⟩
set_option maxRecDepth 20000 in
set_option maxHeartbeats 2000000 in
theorem strs16 (a : Option Addr) (c : Nat) (P : List ByteArray) (w : World) (hS : Small P) (hc : P ≠ [] → ∃ b off, a = some ⟨b, off, none⟩ ∧ ∀ j, j < P.length → w.cell? ⟨b, off + j, none⟩ = some (.string (P.getD j ByteArray.empty))) :
    Calls Tryd.prog 16 #[.slice a P.length c] w fun e w' => Cnt e ∧ w = w' := by
  have hp : (P.length : Int) ≤ 1048576 := by have := hS.1; omega
  have HP := Lib.hid hS.2
  clear hS
  go_enter Tryd.func16, Tryd.ntmps16
  go_wp2
  go_loop [3, 4] (fun v3 v4 => ∃ t k : Nat, v3 = .int .i64 t ∧ v4 = .int .i64 k ∧ (t : Int) ≤ 8388608 ∧ (k : Int) ≤ (P.length : Int)) (fun v3 v4 => P.length - (intOf v4).toNat)
  case atStart => exact ⟨8 * P.length, 0, by go_num, rfl, by omega, by omega⟩
  case round =>
    obtain ⟨t, k, rfl, rfl, ht, hk⟩ := hrel
    by_cases hlt : (k : Int) < (P.length : Int)
    · obtain ⟨b, off, rfl, hcell⟩ := hc (by rintro rfl; simp at hlt; omega)
      have hx := hcell k (by omega)
      have hsz := HP.out k (by omega)
      obtain ⟨s, hs⟩ : ∃ s, s = P.getD k ByteArray.empty := ⟨_, rfl⟩
      rw [← hs] at hx hsz
      clear hc hcell hs
      by_cases c1 : (1048576 : Int) < (t : Int) + (s.size : Int)
      · go_wp2
        go_ret
        exact ⟨cnt_mk (n := 2097152) rfl (by omega), rfl⟩
      · go_wp2
        go_round
        case rel => exact ⟨t + s.size, k + 1, by go_num, by go_num, by omega, by omega⟩
        case measure => simp [intOf]; omega
    · clear hc
      go_wp2
      go_ret
      exact ⟨cnt_mk rfl ht, rfl⟩

set_option maxRecDepth 20000 in
set_option maxHeartbeats 1000000 in
theorem has17 (s : ByteArray) (w : World) (hs : s.size ≤ 1073741824) : Calls Tryd.prog 17 #[.string s] w fun e w' => (∃ b, e = .returned (.bool b) ∧ (b = false → NoEq s)) ∧ w = w' := by
  have R : Hid (∀ e, (∃ b, e = Ending.returned (.bool b) ∧ (b = false → NoEq s)) → HasSay s e) := Lib.hid fun e h => h
  show Calls Tryd.prog 17 #[.string s] w fun e w' => HasSay s e ∧ w = w'
  go_enter Tryd.func17, Tryd.ntmps17
  go_wp2
  go_loop [3] (fun v3 => ∃ k : Nat, v3 = .int .i64 k ∧ (k : Int) ≤ (s.size : Int) ∧ Hid (∀ j, j < k → s.data.toList[j]? ≠ some 61)) (fun v3 => s.size - (intOf v3).toNat)
  case atStart => exact ⟨0, rfl, by omega, Lib.hid fun j hj => by omega⟩
  case round =>
    obtain ⟨k, rfl, hk, HF⟩ := hrel
    by_cases hlt : (k : Int) < (s.size : Int)
    · have hk' : k < s.size := by omega
      by_cases c : s[k] = 61
      · have c' : ((s[k].toNat : Nat) : Int) = 61 := by rw [c]; rfl
        clear c
        go_wp2
        go_ret
        exact ⟨R.out _ ⟨true, rfl, fun h => by cases h⟩, rfl⟩
      · have HF2 := Lib.hid (ib_step s k hk' c HF.out)
        have c' : ¬ ((s[k].toNat : Nat) : Int) = 61 := fun h => c (Lib.byte_eq_of_toNat h)
        clear c
        go_wp2
        go_round
        case rel => exact ⟨k + 1, by go_num, by omega, HF2⟩
        case measure => simp [intOf]; omega
    · have Q : Hid (NoEq s) := Lib.hid (mem61 s (fun j hj => HF.out j (by omega)))
      go_wp2
      go_ret
      exact ⟨R.out _ ⟨false, rfl, fun _ => Q.out⟩, rfl⟩

theorem env19 (v : Value) (P : List ByteArray) (w : World) (hv : Texts w v P) (hP : ∀ s ∈ P, s.size ≤ 1073741824) (hn : P.length ≤ 1048576) : Calls Tryd.prog 19 #[v] w (EnvOut w (P.map (·.data.toList))) := by
  have ENV := Lib.hid (env_any v P w hv hP hn)
  clear hv hP hn
  go_enter Tryd.func19, Tryd.ntmps19
  go_wp2_with (first | (go_at_call 66; go_must (refine ENV.out.mono ?_); rintro e w2 ⟨sv, R, rfl, hE, hB2, hR⟩; have HI := Lib.hid (And.intro hE (And.intro hB2 hR)); clear hE hR hB2 ENV))
  go_ret
  exact ⟨sv, R, rfl, HI.out.1, HI.out.2.1, HI.out.2.2⟩
end Go.Proofs.YthihppocokkoiaaDoor
