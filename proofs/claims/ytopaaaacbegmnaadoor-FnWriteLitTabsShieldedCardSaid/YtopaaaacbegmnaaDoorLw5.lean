/-
  The walk of FnWriteLitTabsShielded. Conditions: those in each theorem.
-/
import Derived.Test.YtopaaaacbegmnaaDoorWl
namespace Go.Proofs.YtopaaaacbegmnaaDoor
set_option linter.unusedVariables false
open Go.Shelf Go.RowKit Go.Lib

/-- yes, and then Q is so; or no -/
def Say (Q : Bool → Prop) (e : Ending) : Prop := ∃ b : Bool, e = .returned (.bool b) ∧ Q b
theorem say {Q : Bool → Prop} (b : Bool) (h : Q b) : Say Q (.returned (.bool b)) := ⟨b, rfl, h⟩

theorem bytes12 (s : ByteArray) (w : World) : Calls Tryd.prog 12 #[.string s] w fun e w' => Say (fun b => b = true → s.size ≤ 1048576) e ∧ w = w' := by
  by_cases h : (1048576 : Int) < (s.size : Int)
  · go_enter Tryd.func12, Tryd.ntmps12
    go_wp2
    go_ret
    exact ⟨say false (fun h => by cases h), rfl⟩
  · have hs : s.size ≤ 1048576 := by omega
    go_enter Tryd.func12, Tryd.ntmps12
    go_wp2
    go_ret
    exact ⟨say _ (by first | exact fun _ => hs | trivial), rfl⟩

/-- no byte of s is x -/
def Free (s : ByteArray) (x : UInt8) : Prop := ∀ j (h : j < s.size), s[j] ≠ x
theorem free_step {s : ByteArray} {x : UInt8} {k : Nat} (hk : k < s.size) (h : s[k] ≠ x) (HF : ∀ j (hj : j < s.size), j < k → s[j] ≠ x) : ∀ j (hj : j < s.size), j < k + 1 → s[j] ≠ x := by
  intro j hj hjk
  by_cases e : j = k
  · subst e; exact h
  · exact HF j hj (by omega)

set_option maxHeartbeats 400000 in
theorem has13 (s : ByteArray) (x : UInt8) (w : World) (hs : s.size ≤ 1048576) : Calls Tryd.prog 13 #[.string s, .int .u8 ((x.toNat : Nat) : Int)] w fun e w' => Say (fun b => b = false → Free s x) e ∧ w = w' := by
  go_enter Tryd.func13, Tryd.ntmps13
  go_wp2
  go_loop [5] (fun v4 => ∃ k : Nat, v4 = .int .i64 k ∧ (k : Int) ≤ (s.size : Int) ∧ Hid (∀ j (hj : j < s.size), j < k → s[j] ≠ x)) (fun v4 => s.size - (intOf v4).toNat)
  case atStart => exact ⟨0, rfl, by omega, Lib.hid fun j hj h => by omega⟩
  case round =>
    obtain ⟨k, rfl, hk, HF⟩ := hrel
    by_cases hlt : (k : Int) < (s.size : Int)
    · have hk' : k < s.size := by omega
      by_cases c : s[k] = x
      · have c' : ((s[k].toNat : Nat) : Int) = ((x.toNat : Nat) : Int) := by rw [c]
        clear c
        go_wp2
        go_ret
        exact ⟨say true (fun h => by cases h), rfl⟩
      · have HF2 := Lib.hid (free_step hk' c HF.out)
        have c' : ¬ ((s[k].toNat : Nat) : Int) = ((x.toNat : Nat) : Int) := fun h => c (Lib.byte_eq_of_toNat h)
        clear c
        go_wp2
        go_round
        case rel => exact ⟨k + 1, by go_num, by omega, HF2⟩
        case measure => simp [intOf]; omega
    · have R : Hid (Free s x) := Lib.hid (fun j hj => HF.out j hj (by omega))
      go_wp2
      go_ret
      exact ⟨say _ (fun _ => R.out), rfl⟩

theorem byte_cell {w : World} {a : Option Addr} {n c : Nat} {l : List UInt8} (h : w.ownsRow 0 5 1 (.slice a n c) l.length (Lib.byteCells l)) : n = l.length ∧ (0 < l.length → ∃ g, a = some ⟨g, 0, none⟩ ∧ ∀ j x, l[j]? = some x → w.cell? ⟨g, j, none⟩ = some (.int .u8 ((x.toNat : Nat) : Int))) := by
  rcases h.2 with ⟨e, h0⟩ | ⟨g, cap, cur, e, hb, hgb, h3⟩
  · cases e
    exact ⟨h0.symm, fun h => by omega⟩
  · cases e
    refine ⟨rfl, fun _ => ⟨g, rfl, fun j x hx => ?_⟩⟩
    have hj := (List.getElem?_eq_some_iff.1 hx).1
    rw [h.cellAt j (by omega)]
    unfold Lib.byteCells
    rw [List.getElem?_map, hx]
    rfl
theorem tab_free {s : ByteArray} (h : ¬ 0 ≤ indexByte s.data.toList 9) : Free s 9 := by
  intro j hj e
  have hm : indexByte s.data.toList 9 = -1 := by have := indexByte_ge s.data.toList 9; omega
  have hl : s.data.toList.length = s.size := by simp
  exact indexByte_none hm j (by rw [Lib.data_getElem? s j hj, e])

set_option maxRecDepth 20000 in
set_option maxHeartbeats 4000000 in
theorem law5 (s : ByteArray) (w : World) : Calls Tryd.prog 5 #[.string s] w fun e w' => e = .returned (.bool true) ∧ Below w.heap.size w w' := by
  have B12 := Lib.hid (bytes12 s w)
  by_cases g1 : (1048576 : Int) < (s.size : Int)
  · go_enter Tryd.func5, Tryd.ntmps5
    go_wp2_with (go_at_call 12; refine B12.out.mono ?_; rintro e w' ⟨⟨b, rfl, hb⟩, hw⟩; subst hw)
    all_goals (go_ret; exact ⟨rfl, Below.refl _ _⟩)
  have H13 := Lib.hid (has13 s 255 w (by omega))
  have D14 := Lib.hid (door14 s w (by omega))
  go_enter Tryd.func5, Tryd.ntmps5
  go_wp2_with (first | (go_at_call 12; refine B12.out.mono ?_; rintro e w' ⟨⟨b, rfl, hb⟩, hw⟩; subst hw; clear hb) | (go_at_call 13; refine H13.out.mono ?_; rintro e w' ⟨⟨b3, rfl, hb3⟩, hw⟩; subst hw; have HB3 := Lib.hid hb3; clear hb3 H13) | (go_at_call 14; refine D14.out.mono ?_; rintro e w1 ⟨v, rfl, hv, hb1⟩; have HV := Lib.hid hv; have HB1 := Lib.hid hb1; obtain ⟨a1, n1, c1, rfl⟩ : ∃ a n c, v = .slice a n c := (by rcases hv.2 with ⟨rfl, _⟩ | ⟨g, cap, cur, rfl, _⟩ <;> exact ⟨_, _, _, rfl⟩); clear hv hb1 D14))
  all_goals (try (go_ret; exact ⟨rfl, Below.refl _ _⟩))
  have hb3 : b3 = false := by assumption
  have F255 := Lib.hid (HB3.out hb3)
  obtain ⟨hn1, hcell⟩ := byte_cell HV.out
  have sz : s.data.toList.length = s.size := by simp
  clear HB3 B12 HV
  by_cases ht : 0 ≤ indexByte s.data.toList 9
  · have hl : lit s.data.toList = 255 :: s.data.toList ++ [255] := if_pos ht
    rw [hl] at hn1 hcell
    have hln : (255 :: s.data.toList ++ [255]).length = s.size + 2 := by simp
    rw [hln] at hn1 hcell
    subst hn1
    obtain ⟨g, rfl, hc⟩ := hcell (by omega)
    have HC0 : Hid (w1.cell? ⟨g, 0, none⟩ = some (.int .u8 255)) := Lib.hid (hc 0 255 rfl)
    have HC1 : Hid (∀ j (hj : j < s.size), w1.cell? ⟨g, j + 1, none⟩ = some (.int .u8 ((s[j].toNat : Nat) : Int))) := Lib.hid (fun j hj => hc (j + 1) s[j] (by
      show (s.data.toList ++ [255])[j]? = _
      rw [List.getElem?_append_left (by omega), Lib.data_getElem? s j hj]))
    have HC2 : Hid (w1.cell? ⟨g, s.size + 1, none⟩ = some (.int .u8 255)) := Lib.hid (hc (s.size + 1) 255 (by
      show (s.data.toList ++ [255])[s.size]? = _
      rw [List.getElem?_append_right (by omega), sz, Nat.sub_self]
      rfl))
    clear hc hcell hl hln ht sz
    go_loop [4, 5, 6] (fun v4 v5 v6 => ∃ (o : Bool) (j k : Nat), v4 = .bool o ∧ v5 = .int .i64 j ∧ v6 = .int .i64 k ∧ (k = 0 ∧ o = false ∧ j = 0 ∨ 1 ≤ k ∧ k ≤ s.size + 1 ∧ o = true ∧ k = j + 1 ∨ k = s.size + 2 ∧ o = false ∧ j = s.size)) (fun v4 v5 v6 => s.size + 2 - (intOf v6).toNat)
    case atStart => exact ⟨false, 0, 0, rfl, rfl, rfl, .inl ⟨rfl, rfl, rfl⟩⟩
    case round =>
      obtain ⟨o, j, k, rfl, rfl, rfl, hk⟩ := hrel
      rcases hk with ⟨rfl, rfl, rfl⟩ | ⟨h1, h2, rfl, rfl⟩ | ⟨rfl, rfl, rfl⟩
      · have hx := HC0.out
        have hlt : (0 : Int) < (s.size : Int) + 2 := by omega
        go_wp2
        go_round
        case rel => exact ⟨true, 0, 1, rfl, rfl, rfl, .inr (.inl ⟨by omega, by omega, rfl, rfl⟩)⟩
        case measure => simp [intOf] <;> omega
      · by_cases hj : j < s.size
        · have hx := HC1.out j hj
          have n255 : ¬ ((s[j].toNat : Nat) : Int) = 255 := fun h => F255.out j hj (Lib.byte_eq_of_toNat h)
          have hji : (j : Int) < (s.size : Int) := by omega
          have hlt : (j : Int) + 1 < (s.size : Int) + 2 := by omega
          go_wp2
          all_goals (
            refine ⟨⟨true, j + 1, j + 2, rfl, by go_num, by go_num, .inr (.inl ⟨by omega, by omega, rfl, rfl⟩)⟩, ?_⟩
            simp [intOf]
            omega)
        · have hje : j = s.size := by omega
          subst hje
          have hx := HC2.out
          have hlt : (s.size : Int) + 1 < (s.size : Int) + 2 := by omega
          go_wp2
          go_round
          case rel => exact ⟨false, s.size, s.size + 2, rfl, rfl, by go_num, .inr (.inr ⟨rfl, rfl, rfl⟩)⟩
          case measure => simp [intOf]; omega
      · go_wp2
        go_ret
        exact ⟨by first | rfl | simp, HB1.out⟩
  · have hl : lit s.data.toList = s.data.toList := if_neg ht
    rw [hl, sz] at hn1
    rw [hl, sz] at hcell
    subst hn1
    have F9 := Lib.hid (tab_free ht)
    have HC := Lib.hid hcell
    clear hcell hl ht sz
    go_loop [4, 5, 6] (fun v4 v5 v6 => ∃ k : Nat, v4 = .bool false ∧ v5 = .int .i64 k ∧ v6 = .int .i64 k ∧ (k : Int) ≤ (s.size : Int)) (fun v4 v5 v6 => s.size - (intOf v6).toNat)
    case atStart => exact ⟨0, rfl, rfl, rfl, by omega⟩
    case round =>
      obtain ⟨k, rfl, rfl, rfl, hk⟩ := hrel
      by_cases hlt : (k : Int) < (s.size : Int)
      · have hk' : k < s.size := by omega
        obtain ⟨g, hg, hc⟩ := HC.out (by omega)
        subst hg
        have hx := hc k s[k] (Lib.data_getElem? s k hk')
        have n255 : ¬ ((s[k].toNat : Nat) : Int) = 255 := fun h => F255.out k hk' (Lib.byte_eq_of_toNat h)
        have n9 : ¬ ((s[k].toNat : Nat) : Int) = 9 := fun h => F9.out k hk' (Lib.byte_eq_of_toNat h)
        clear hc
        go_wp2
        go_round
        case rel => exact ⟨k + 1, rfl, by go_num, by go_num, by omega⟩
        case measure => simp [intOf]; omega
      · have hke : k = s.size := by omega
        subst hke
        go_wp2
        go_ret
        exact ⟨by first | rfl | simp, HB1.out⟩
end Go.Proofs.YtopaaaacbegmnaaDoor
