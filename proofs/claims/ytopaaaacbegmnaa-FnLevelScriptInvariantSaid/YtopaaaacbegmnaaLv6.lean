/-
  The walk of the law's copy of a slice of truth values. Conditions: those in each theorem.
-/
import Derived.Test.YtopaaaacbegmnaaLv5
namespace Go.Proofs.Ytopaaaacbegmnaa
set_option linter.unusedVariables false
open Go.Shelf Go.RowKit Go.Lib Go.Sort

def part (bs : List Bool) (k : Nat) : List Value := (bs.take k).map Value.bool ++ List.replicate (bs.length - k) (.bool false)
theorem part_step (bs : List Bool) (k : Nat) (hk : k < bs.length) : (part bs k).set k (.bool (bs.getD k false)) = part bs (k + 1) := by
  unfold part
  have hl : ((bs.take k).map Value.bool).length = k := by rw [List.length_map, List.length_take, Nat.min_eq_left (by omega)]
  rw [List.set_append, if_neg (by omega), hl, Nat.sub_self]
  have : bs.length - k = (bs.length - (k + 1)) + 1 := by omega
  rw [this, List.replicate_succ, List.set_cons_zero, List.take_succ_eq_append_getElem hk, List.map_append, List.append_assoc]
  simp [List.getD, hk]
theorem part_at (bs : List Bool) (k : Nat) (hk : k < bs.length) : (part bs k)[k]? = some (.bool false) := by
  unfold part
  have hl : ((bs.take k).map Value.bool).length = k := by rw [List.length_map, List.length_take, Nat.min_eq_left (by omega)]
  rw [List.getElem?_append_right (by omega), hl, Nat.sub_self]
  have : bs.length - k = (bs.length - (k + 1)) + 1 := by omega
  rw [this, List.replicate_succ]; rfl
theorem part_zero (bs : List Bool) : part bs 0 = List.replicate bs.length (.bool false) := by unfold part; simp
theorem part_all (bs : List Bool) : part bs bs.length = bs.map Value.bool := by unfold part; simp

/-- what the copy leaves -/
def CloneOut (bs : List Bool) (w : World) (e : Ending) (w' : World) : Prop := ∃ v, e = .returned v ∧ w'.ownsRow w.heap.size 4 1 v bs.length (bs.map Value.bool) ∧ Below w.heap.size w w'
theorem clone_mk {bs : List Bool} {w w' : World} {v : Value} (h1 : w'.ownsRow w.heap.size 4 1 v bs.length (bs.map Value.bool)) (h2 : Below w.heap.size w w') : CloneOut bs w (.returned v) w' := ⟨v, rfl, h1, h2⟩

set_option maxRecDepth 20000 in
set_option maxHeartbeats 2000000 in
theorem clone7 (a : Option Addr) (c : Nat) (bs : List Bool) (w : World) (hb : BoolsAt w a bs) (hn : bs.length ≤ 1048576) (h0 : a = none → bs = []) : Calls Try.prog 7 #[.slice a bs.length c] w (CloneOut bs w) := by
  have q23 : ∀ (w : World) (a : Option Addr) (n c n' c' : Nat), (binOp .eql 23 (.slice a n c) (.slice none n' c')).run Try.prog w = .ok (.bool a.isNone) w := fun w a n c n' c' => Lib.run_eql_slice_nil w _ _ a n c n' c' Try.underlying23
  cases a with
  | none =>
    have hb0 := h0 rfl
    subst hb0
    clear hb h0
    go_enter Try.func7, Try.ntmps7
    go_wp2
    go_ret
    exact clone_mk (World.ownsRow_nil _ _ _ _) (Below.refl _ _)
  | some a =>
    obtain ⟨i4, hi, hz, hs, hby⟩ := inf4
    have hni : (bs.length : Int) ≤ 1048576 := by omega
    have HB := Lib.hid hb
    clear hb h0
    go_enter Try.func7, Try.ntmps7
    go_wp2_with (first | (at_make; refine wpList_make_full _ rfl _ _ 23 rfl w.heap.size 4 i4 (.bool false) 1 Try.underlying23 hi hz hs .i64 .i64 _ _ bs.length rfl rfl rfl rfl (by rw [hby]; omega) (by unfold maxLen; omega) (Nat.le_refl _) ?_))
    intro w1 hown hgrow
    have B1 : Hid (Below w.heap.size w w1) := Lib.hid ⟨hgrow.os, hgrow.tape, hgrow.output, hgrow.size, fun i hi => hgrow.block i hi (by simp)⟩
    have O1 : Hid (w1.ownsRow w.heap.size 4 1 (.slice (some ⟨w.heap.size, 0, none⟩) bs.length bs.length) bs.length (part bs 0)) := Lib.hid (by
      rw [part_zero]
      have e := toList_madeCells_one (.bool false) bs.length
      simp only [e] at hown
      exact hown)
    clear hown hgrow
    go_wp2
    go_loopg [4] (bs.length) (fun g v4 wr => ∃ k : Nat, v4 = .int .i64 k ∧ (k : Int) ≤ (bs.length : Int) ∧ bs.length - k ≤ g ∧ Hid (wr.ownsRow w.heap.size 4 1 (.slice (some ⟨w.heap.size, 0, none⟩) bs.length bs.length) bs.length (part bs k)) ∧ Hid (Below w.heap.size w wr))
    case atStart => exact ⟨0, rfl, by omega, by omega, O1, B1⟩
    case round =>
      clear O1 B1
      obtain ⟨k, rfl, hk, hg, O1, B1⟩ := hrel
      by_cases hlt : (k : Int) < (bs.length : Int)
      · have hkn : k < bs.length := by omega
        obtain ⟨b, off, hab, hbw, hcell⟩ := HB.out (by rintro rfl; simp at hlt; omega)
        cases hab
        have hx := (B1.out.cell (p := ⟨b, off + k, none⟩) hbw).trans (hcell k hkn)
        have hy : wr.cell? ⟨w.heap.size, k, none⟩ = some (.bool false) := by rw [O1.out.cellAt k (by omega)]; exact part_at bs k hkn
        have fy := O1.out.frozenAt k
        have st := (O1.out.stored k (.bool (bs.getD k false))).1
        rw [part_step bs k hkn] at st
        have O2 := Lib.hid st
        have B2 := Lib.hid (B1.out.setCell (p := ⟨w.heap.size, k, none⟩) (Nat.le_refl _) (.bool (bs.getD k false)))
        clear hcell st O1 B1
        generalize bs.getD k false = xb at hx O2 B2
        go_wp2
        go_roundg (bs.length - (k + 1))
        case measure => omega
        case rel => exact ⟨k + 1, by go_num, by omega, Nat.le_refl _, O2, B2⟩
      · have hke : k = bs.length := by omega
        subst hke
        have O2 := O1.out
        rw [part_all] at O2
        have O3 := Lib.hid O2
        clear O1 O2
        go_wp2
        go_ret
        exact clone_mk O3.out B1.out
end Go.Proofs.Ytopaaaacbegmnaa
