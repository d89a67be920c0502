/-
  The walks of zzByteOK, zzNameOK and zzNameEq (without folding). Conditions: those in each theorem.
-/
import Derived.Test.YthihppocokkoiaaDoorLwE
namespace Go.Proofs.YthihppocokkoiaaDoor
set_option linter.unusedVariables false
open Go.Shelf Go.RowKit Go.Lib Go.Sort

set_option maxHeartbeats 1000000 in
theorem byte69 (x m : Int) (w : World) (hm : m = 0 ∨ m = 1 ∨ m = 2) (h0 : 0 ≤ x) (h1 : x < 256) : Calls Tryd.prog 69 #[.int .u8 x, .int .i64 m] w fun e w' => GuardSay True e ∧ w = w' := by
  rcases hm with rfl | rfl | rfl
  · go_enter Tryd.func69, Tryd.ntmps69
    go_wp2
    all_goals go_ret
    all_goals exact ⟨⟨_, rfl, fun _ => trivial⟩, rfl⟩
  · by_cases c1 : x < 128
    · by_cases c2 : 97 ≤ x
      · go_enter Tryd.func69, Tryd.ntmps69
        go_wp2
        all_goals go_ret
        all_goals exact ⟨⟨_, rfl, fun _ => trivial⟩, rfl⟩
      · go_enter Tryd.func69, Tryd.ntmps69
        go_wp2
        all_goals go_ret
        all_goals exact ⟨⟨_, rfl, fun _ => trivial⟩, rfl⟩
    · go_enter Tryd.func69, Tryd.ntmps69
      go_wp2
      all_goals go_ret
      all_goals exact ⟨⟨_, rfl, fun _ => trivial⟩, rfl⟩
  · go_enter Tryd.func69, Tryd.ntmps69
    go_wp2
    all_goals go_ret
    all_goals exact ⟨⟨_, rfl, fun _ => trivial⟩, rfl⟩

/-- no '=' in the text -/
def NoEq (s : ByteArray) : Prop := 61 ∉ s.data.toList

theorem mem61 (s : ByteArray) (HF : ∀ j, j < s.size → s.data.toList[j]? ≠ some 61) : NoEq s := by
  intro h
  obtain ⟨i, hi, hx⟩ := List.mem_iff_getElem.1 h
  have hl : s.data.toList.length = s.size := by simp
  exact HF i (by omega) (by rw [List.getElem?_eq_getElem hi, hx])

set_option maxRecDepth 20000 in
set_option maxHeartbeats 1000000 in
theorem name40 (s : ByteArray) (m : Int) (w : World) (hm : m = 0 ∨ m = 1 ∨ m = 2) (hs : s.size ≤ 1073741824) : Calls Tryd.prog 40 #[.string s, .int .i64 m] w fun e w' => GuardSay (NoEq s) e ∧ w = w' := by
  have B := Lib.hid (fun x h0 h1 W => byte69 x m W hm h0 h1)
  clear hm
  go_enter Tryd.func40, Tryd.ntmps40
  go_wp2
  go_loop [5] (fun v5 => ∃ k : Nat, v5 = .int .i64 k ∧ (k : Int) ≤ (s.size : Int) ∧ Hid (∀ j, j < k → s.data.toList[j]? ≠ some 61)) (fun v5 => s.size - (intOf v5).toNat)
  case atStart => exact ⟨0, rfl, by omega, Lib.hid fun j hj => by omega⟩
  case round =>
    obtain ⟨k, rfl, hk, HF⟩ := hrel
    by_cases hlt : (k : Int) < (s.size : Int)
    · have hk' : k < s.size := by omega
      by_cases c : s[k] = 61
      · have c' : ((s[k].toNat : Nat) : Int) = 61 := by rw [c]; rfl
        clear c
        go_wp2
        go_ret
        exact ⟨gs_no rfl, rfl⟩
      · have HF2 := Lib.hid (ib_step s k hk' c HF.out)
        have c' : ¬ ((s[k].toNat : Nat) : Int) = 61 := fun h => c (Lib.byte_eq_of_toNat h)
        have hb0 : (0 : Int) ≤ ((s[k].toNat : Nat) : Int) := by omega
        have hb1 : ((s[k].toNat : Nat) : Int) < 256 := by have := UInt8.toNat_lt s[k]; omega
        clear c
        go_wp2_with (first | (go_at_call 69; go_must (refine (B.out _ hb0 hb1 _).mono ?_); rintro e w' ⟨⟨b, rfl, _⟩, rfl⟩))
        · go_ret
          exact ⟨gs_no rfl, rfl⟩
        · go_round
          case rel => exact ⟨k + 1, by go_num, by omega, HF2⟩
          case measure => simp [intOf]; omega
    · have R : Hid (NoEq s) := Lib.hid (mem61 s (fun j hj => HF.out j (by omega)))
      go_wp2
      go_ret
      exact ⟨gs_yes rfl R.out, rfl⟩

theorem eq_step {a b : ByteArray} {k : Nat} (ha : k < a.size) (hb : k < b.size) (h : a[k] = b[k]) (HF : ∀ j, j < k → a.data.toList[j]? = b.data.toList[j]?) : ∀ j, j < k + 1 → a.data.toList[j]? = b.data.toList[j]? := by
  intro j hj
  by_cases e : j = k
  · subst e; rw [Lib.data_getElem? a j ha, Lib.data_getElem? b j hb, h]
  · exact HF j (by omega)
theorem eq_end {a b : ByteArray} (hsz : a.size = b.size) (HF : ∀ j, j < a.size → a.data.toList[j]? = b.data.toList[j]?) : (a.toList == b.toList) = true := by
  rw [Lib.toList_data, Lib.toList_data, beq_iff_eq]
  have la : a.data.toList.length = a.size := by simp
  have lb : b.data.toList.length = b.size := by simp
  apply List.ext_getElem?
  intro j
  by_cases c : j < a.size
  · exact HF j c
  · rw [List.getElem?_eq_none (by omega), List.getElem?_eq_none (by omega)]
theorem ne_at {a b : ByteArray} {k : Nat} (ha : k < a.size) (hb : k < b.size) (h : a[k] ≠ b[k]) : (a.toList == b.toList) = false := by
  rw [Lib.toList_data, Lib.toList_data, beq_eq_false_iff_ne]
  intro e
  have := congrArg (·[k]?) e
  simp only [Lib.data_getElem? a k ha, Lib.data_getElem? b k hb, Option.some.injEq] at this
  exact h this
theorem ne_size {a b : ByteArray} (h : ¬ a.size = b.size) : (a.toList == b.toList) = false := by
  rw [Lib.toList_data, Lib.toList_data, beq_eq_false_iff_ne]
  intro e
  have := congrArg List.length e
  simp only [Array.length_toList] at this
  exact h this

set_option maxRecDepth 20000 in
set_option maxHeartbeats 1000000 in
theorem nameEq70 (a b : ByteArray) (w : World) (r : Bool) (hr : Hid ((a.toList == b.toList) = r)) (sa : a.size ≤ 1073741824) : Calls Tryd.prog 70 #[.string a, .string b, .bool false] w fun e w' => e = .returned (.bool r) ∧ Below w.heap.size w w' := by
  by_cases hsz : a.size = b.size
  · have hsz' : (a.size : Int) = (b.size : Int) := by omega
    go_enter Tryd.func70, Tryd.ntmps70
    go_wp2
    go_loopg [7] (a.size) (fun g v7 wr => ∃ k : Nat, v7 = .int .i64 k ∧ (k : Int) ≤ (a.size : Int) ∧ a.size - k ≤ g ∧ Hid (∀ j, j < k → a.data.toList[j]? = b.data.toList[j]?) ∧ Hid (Below w.heap.size w wr))
    case atStart => exact ⟨0, rfl, by omega, by omega, Lib.hid fun j hj => by omega, Lib.hid (Below.refl _ _)⟩
    case round =>
      obtain ⟨k, rfl, hk, hg, HF, BW⟩ := hrel
      by_cases hlt : (k : Int) < (a.size : Int)
      · have ha : k < a.size := by omega
        have hb : k < b.size := by omega
        have hbi : (k : Int) < (b.size : Int) := by omega
        by_cases c : a[k] = b[k]
        · have HF2 := Lib.hid (eq_step ha hb c HF.out)
          have c' : ((a[k].toNat : Nat) : Int) = ((b[k].toNat : Nat) : Int) := by rw [c]
          clear c
          go_wp2
          go_big_region
          go_wp2
          go_roundg (a.size - (k + 1))
          case measure => omega
          case rel => exact ⟨k + 1, by go_num, by omega, Nat.le_refl _, HF2, Lib.hid BW.out.drew⟩
        · have R : Hid (r = false) := Lib.hid (hr.out.symm.trans (ne_at ha hb c))
          have c' : ¬ ((a[k].toNat : Nat) : Int) = ((b[k].toNat : Nat) : Int) := fun h => c (Lib.byte_eq_of_toNat h)
          clear c
          go_wp2
          go_big_region
          have c2 : (((a[k].toNat : Nat) : Int) != ((b[k].toNat : Nat) : Int)) = true := by simpa using c'
          go_wp2
          go_ret
          exact ⟨by rw [R.out]; rfl, BW.out.drew⟩
      · have R : Hid (r = true) := Lib.hid (hr.out.symm.trans (eq_end hsz (fun j hj => HF.out j (by omega))))
        go_wp2
        go_ret
        exact ⟨by rw [R.out]; rfl, BW.out⟩
  · have hsz' : ¬ (a.size : Int) = (b.size : Int) := by omega
    have R : Hid (r = false) := Lib.hid (hr.out.symm.trans (ne_size hsz))
    go_enter Tryd.func70, Tryd.ntmps70
    go_wp2
    go_ret
    exact ⟨by rw [R.out]; rfl, Below.refl _ _⟩
end Go.Proofs.YthihppocokkoiaaDoor
