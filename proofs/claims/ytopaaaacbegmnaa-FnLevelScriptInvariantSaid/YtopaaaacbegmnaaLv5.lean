/-
  The walks of the level law's own helpers. Conditions: those in each theorem.
-/
import Derived.Test.YtopaaaacbegmnaaLv4
import Derived.Shelf.SlSortCmp.QuietGrown
namespace Go.Proofs.Ytopaaaacbegmnaa
set_option linter.unusedVariables false
open Go.Shelf Go.RowKit Go.Lib Go.Sort

/-- a slice of truth values -/
def BoolsAt (w : World) (a : Option Addr) (bs : List Bool) : Prop := bs ≠ [] → ∃ b off, a = some ⟨b, off, none⟩ ∧ b < w.heap.size ∧ ∀ j, j < bs.length → w.cell? ⟨b, off + j, none⟩ = some (.bool (bs.getD j false))
theorem BoolsAt.of_own {w : World} {B : Nat} {v : Value} {bs : List Bool} (h : w.ownsRow B 4 1 v bs.length (bs.map Value.bool)) : ∃ a c, v = .slice a bs.length c ∧ BoolsAt w a bs := by
  rcases h.2 with ⟨rfl, h0⟩ | ⟨g, cap, cur, rfl, _, hgb, _⟩
  · exact ⟨none, 0, by rw [h0], fun hne => absurd (List.eq_nil_of_length_eq_zero h0) hne⟩
  · refine ⟨_, cap, rfl, fun hne => ⟨g, 0, rfl, Lib.lt_of_heap hgb, fun j hj => ?_⟩⟩
    rw [Nat.zero_add, h.cellAt j (by omega)]
    simp [List.getD, hj]

theorem trues_take (bs : List Bool) (k : Nat) (hk : k < bs.length) : trues (bs.take (k + 1)) = trues (bs.take k) + (if bs.getD k false then 1 else 0) := by
  rw [List.take_succ_eq_append_getElem hk, trues_snoc]
  simp [List.getD, hk]
theorem trues_le (bs : List Bool) : trues bs ≤ bs.length := List.count_le_length

set_option maxRecDepth 20000 in
set_option maxHeartbeats 1000000 in
theorem trues5 (a : Option Addr) (c : Nat) (bs : List Bool) (w : World) (hb : BoolsAt w a bs) (hn : bs.length ≤ 1073741824) : Calls Try.prog 5 #[.slice a bs.length c] w fun e w' => e = .returned (.int .u64 (trues bs)) ∧ w' = w := by
  have hni : (bs.length : Int) ≤ 1073741824 := by omega
  have HB := Lib.hid hb
  clear hb
  go_enter Try.func5, Try.ntmps5
  go_wp2
  go_loop [3, 4] (fun v2 v3 => ∃ t k : Nat, v2 = .int .u64 t ∧ v3 = .int .i64 k ∧ (k : Int) ≤ (bs.length : Int) ∧ (t : Int) ≤ (k : Int) ∧ Hid (t = trues (bs.take k))) (fun v2 v3 => bs.length - (intOf v3).toNat)
  case atStart => exact ⟨0, 0, rfl, rfl, by omega, by omega, Lib.hid rfl⟩
  case round =>
    obtain ⟨t, k, rfl, rfl, hk, ht, HT⟩ := hrel
    by_cases hlt : (k : Int) < (bs.length : Int)
    · obtain ⟨b, off, rfl, _, hcell⟩ := HB.out (by rintro rfl; simp at hlt; omega)
      have hx := hcell k (by omega)
      have h2 := trues_take bs k (by omega)
      rw [← HT.out] at h2
      cases hb : bs.getD k false with
      | false =>
        rw [hb] at hx h2
        have HT2 : Hid (t = trues (bs.take (k + 1))) := Lib.hid (by rw [h2]; rfl)
        clear h2 hcell hb
        go_wp2
        go_round
        case rel => exact ⟨t, k + 1, rfl, by go_num, by omega, by omega, HT2⟩
        case measure => simp [intOf]; omega
      | true =>
        rw [hb] at hx h2
        have HT2 : Hid (t + 1 = trues (bs.take (k + 1))) := Lib.hid (by rw [h2]; rfl)
        clear h2 hcell hb
        go_wp2
        go_round
        case rel => exact ⟨t + 1, k + 1, by go_num, by go_num, by omega, by omega, HT2⟩
        case measure => simp [intOf]; omega
    · have R : Hid (t = trues bs) := Lib.hid (by have := HT.out; rw [List.take_of_length_le (by omega)] at this; exact this)
      go_wp2
      go_ret
      exact ⟨by rw [R.out]; rfl, rfl⟩

/-- yes or no -/
def YesNo (e : Ending) : Prop := ∃ b : Bool, e = .returned (.bool b)
theorem yn (b : Bool) : YesNo (.returned (.bool b)) := ⟨b, rfl⟩
set_option maxRecDepth 20000 in
theorem bytes4 (l m : Int) (a : Option Addr) (n c : Nat) (a2 : Option Addr) (n2 c2 : Nat) (w : World) (h1 : (n : Int) ≤ 9223372036854775807) (h2 : (n2 : Int) ≤ 9223372036854775807) : Calls Try.prog 4 #[.int .u64 l, .int .u64 m, .slice a n c, .slice a2 n2 c2] w fun e w' => YesNo e ∧ w' = w := by
  by_cases c1 : (1048576 : Int) < n
  · go_enter Try.func4, Try.ntmps4
    go_wp2
    go_ret
    exact ⟨yn _, rfl⟩
  · by_cases c2 : (1048576 : Int) < n2
    · go_enter Try.func4, Try.ntmps4
      go_wp2
      go_ret
      exact ⟨yn _, rfl⟩
    · by_cases c3 : (1048576 : Int) < (n : Int) + n2
      · go_enter Try.func4, Try.ntmps4
        go_wp2
        go_ret
        exact ⟨yn _, rfl⟩
      · go_enter Try.func4, Try.ntmps4
        go_wp2
        go_ret
        exact ⟨yn _, rfl⟩

/-- the three readers of the printer -/
theorem last11 (B p k r last lev : Nat) (ls : List Bool) (v : Value) (w : World) (h : LP B p k r last lev ls v w) : Calls Try.prog 11 #[.pointer (some ⟨p, 0, none⟩)] w fun e w' => e = .returned (.int .u64 last) ∧ w' = w := by
  obtain ⟨c20, _⟩ := h.cells
  clear h
  go_enter Try.func11, Try.ntmps11
  go_wp2
  go_ret
  exact ⟨rfl, rfl⟩
theorem lev12 (B p k r last lev : Nat) (ls : List Bool) (v : Value) (w : World) (h : LP B p k r last lev ls v w) : Calls Try.prog 12 #[.pointer (some ⟨p, 0, none⟩)] w fun e w' => e = .returned (.int .u64 lev) ∧ w' = w := by
  obtain ⟨_, c21, _⟩ := h.cells
  clear h
  go_enter Try.func12, Try.ntmps12
  go_wp2
  go_ret
  exact ⟨rfl, rfl⟩
theorem incs13 (B p k r last lev : Nat) (ls : List Bool) (v : Value) (w : World) (h : LP B p k r last lev ls v w) : Calls Try.prog 13 #[.pointer (some ⟨p, 0, none⟩)] w fun e w' => e = .returned v ∧ w' = w := by
  obtain ⟨_, _, c22, _⟩ := h.cells
  obtain ⟨a, c, hv, _⟩ := BoolsAt.of_own h.own
  subst hv
  clear h
  go_enter Try.func13, Try.ntmps13
  go_wp2
  go_ret
  exact ⟨rfl, rfl⟩
/-- the three doors -/
theorem door8 (B p k r last lev : Nat) (ls : List Bool) (v : Value) (w : World) (h : LP B p k r last lev ls v w) (hl : lev + 1 < 18446744073709551616) (hn : ls.length + 1 ≤ 1073741824) : Calls Try.prog 8 #[.pointer (some ⟨p, 0, none⟩)] w (LvOut B p k r last lev ls (ls.length + 1) w) := by
  have I := Lib.hid (inc15 B p k r last lev ls v w h hl hn)
  clear h
  go_enter Try.func8, Try.ntmps8
  go_wp2_with (go_at_call 15; refine I.out.mono ?_; rintro e w' ⟨rfl, hr⟩)
  go_end0
  exact ⟨rfl, hr⟩
theorem door9 (B p k r last lev : Nat) (ls : List Bool) (v : Value) (w : World) (h : LP B p k r last lev ls v w) (hl : lev < 18446744073709551616) (ht : trues ls ≤ lev) (ls0 : List Bool) (b : Bool) (he : ls = ls0 ++ [b]) : Calls Try.prog 9 #[.pointer (some ⟨p, 0, none⟩)] w (LvOut B p k r last lev ls ls0.length w) := by
  have I := Lib.hid (dec16 B p k r last lev ls v w h hl ht ls0 b he)
  clear h he
  go_enter Try.func9, Try.ntmps9
  go_wp2_with (go_at_call 16; refine I.out.mono ?_; rintro e w' ⟨rfl, hr⟩)
  go_end0
  exact ⟨rfl, hr⟩
theorem door10 (B p k r last lev : Nat) (ls : List Bool) (v : Value) (w : World) (h : LP B p k r last lev ls v w) (hl : lev < 1048576) : Calls Try.prog 10 #[.pointer (some ⟨p, 0, none⟩)] w (IndOut B p k r lev ls v w) := by
  have I := Lib.hid (ind17 B p k r last lev ls v w h hl)
  clear h
  go_enter Try.func10, Try.ntmps10
  go_wp2_with (go_at_call 17; refine I.out.mono ?_; rintro e w' ⟨rfl, hr⟩)
  go_end0
  exact ⟨rfl, hr⟩
end Go.Proofs.Ytopaaaacbegmnaa
