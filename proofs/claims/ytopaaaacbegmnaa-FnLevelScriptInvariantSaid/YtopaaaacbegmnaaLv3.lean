/-
  The walks of the printer's incLevel and decLevel. Conditions: those in each theorem.
-/
import Derived.Test.YtopaaaacbegmnaaLv2
namespace Go.Proofs.Ytopaaaacbegmnaa
set_option linter.unusedVariables false
open Go.Shelf Go.RowKit Go.Lib

theorem inf4 : ∃ i, Try.prog.info? 4 = some i ∧ i.zero = some (.bool false) ∧ i.size = 1 ∧ i.bytes = 1 := by
  have h : (Try.prog.info? 4).map (fun i => (i.zero, i.size, i.bytes)) = some (some (.bool false), 1, 1) := by kernel_rfl
  exact info_parts h
theorem newsN {w : World} {cs : Array Value} {t : TypeId} (ad : Addr) (had : ad = ⟨w.heap.size, 0, none⟩) : ∀ j u, cs.toList[j]? = some u → (w.alloc (.cells cs t)).cell? (ad.add j) = some u := by
  intro j u hj
  subst had
  rw [show (⟨w.heap.size, 0, none⟩ : Addr).add j = ⟨w.heap.size, j, none⟩ by simp [Addr.add]; intro h; exact h.symm]
  rw [Lib.cell_of_heap (heap_alloc_new w (.cells cs t)) j]
  simpa using hj
def trues (ls : List Bool) : Nat := ls.count true
/-- behind an append: the printer with its new records -/
theorem LP.pushed {B p k r last lev : Nat} {ls : List Bool} {v v2 : Value} {b : Bool} {w w1 : World} {o : Obj} (h : LP B p k r last lev ls v w) (hown : w1.ownsRow B 4 1 v2 (ls.length + 1) (ls.map Value.bool ++ [.bool b])) (hg : (w.alloc o).grownBy w1 v.ownBlock) (hl : ls.length + 1 ≤ 1073741824) :
    w1.heap[p]? = some (.cells (pcells k last lev v) 46 (0, 0)) ∧ LP B p k r last lev (ls ++ [b]) v2 (w1.setCell ⟨p, 22, none⟩ v2) ∧ Below B w (w1.setCell ⟨p, 22, none⟩ v2) := by
  obtain ⟨n, hn⟩ := h.bd
  obtain ⟨a1, a2, a3, a4, a5⟩ := h.bdNe hn
  have hB := h.lt
  have hp := Lib.lt_of_heap h.pr
  have q1 : ∀ j, j < w.heap.size → v.ownBlock ≠ some j → w1.heap[j]? = w.heap[j]? := fun j hj hne => by
    rw [hg.block j (by simp; omega) (fun e => hne e.symm), Below.heap_alloc _ _ _ hj]
  have pr1 : w1.heap[p]? = some (.cells (pcells k last lev v) 46 (0, 0)) := (q1 p hp a5).trans h.pr
  have bd1 : BD B k r n w1 := hn.kept fun j hj => by
    obtain ⟨rc, hr1, hr2⟩ := hn.row
    rcases hj with rfl | rfl
    · exact q1 _ (Lib.lt_of_heap hn.wr) a3
    · exact q1 _ (Lib.lt_of_heap hr1) a4
  have hl2 : (ls ++ [b]).length = ls.length + 1 := by simp
  have hm : (ls ++ [b]).map Value.bool = ls.map Value.bool ++ [.bool b] := by simp
  have a6 := own_ne hown pr1 (by decide)
  refine ⟨pr1, ⟨Lib.heap_setCell_same (i := 22) pr1 v2, ?_, ⟨n, bd1.kept fun j hj => Below.heap_setCell _ _ _ _ ?_⟩, h.lp, by omega⟩, ?_⟩
  · rw [hl2, hm]
    exact own_kept hown fun g hg => Below.heap_setCell _ _ _ _ (by rintro rfl; exact a6 hg)
  · rcases hj with rfl | rfl
    · exact Ne.symm a1
    · exact Ne.symm a2
  · refine ⟨hg.os, hg.tape, hg.output, by have := hg.size; simp [World.setCell] at this ⊢; omega, fun j hj => ?_⟩
    rw [Below.heap_setCell _ _ _ _ (show j ≠ p by have := h.lp; omega)]
    exact q1 j (by omega) (fun e => by have := (h.own.lt j e).1; omega)

/-- what a turn of the level leaves: m: the records' number, behind it -/
def LvOut (B p k r last lev : Nat) (ls : List Bool) (m : Nat) (w : World) (e : Ending) (w' : World) : Prop :=
  e = .returned (.tuple #[]) ∧ ∃ lev2 ls2 v2, LP B p k r last lev2 ls2 v2 w' ∧ ls2.length = m ∧ lev2 + trues ls = lev + trues ls2 ∧ lev2 ≤ lev + 1 ∧ Below B w w'

theorem LP.cells {B p k r last lev : Nat} {ls : List Bool} {v : Value} {w : World} (h : LP B p k r last lev ls v w) : w.cell? ⟨p, 20, none⟩ = some (.int .u64 last) ∧ w.cell? ⟨p, 21, none⟩ = some (.int .u64 lev) ∧ w.cell? ⟨p, 22, none⟩ = some v ∧ w.cell? ⟨p, 0, none⟩ = some (.iface 33 (.pointer (some ⟨k, 0, none⟩))) ∧ w.cell? ⟨p, 10, none⟩ = some (.bool false) ∧ w.cell? ⟨p, 5, none⟩ = some (.int .u64 0) ∧ ∀ i, w.frozen? ⟨p, i, none⟩ = false := by
  have c := fun i => Lib.cell_of_heap h.pr i
  exact ⟨by rw [c]; rfl, by rw [c]; rfl, by rw [c]; rfl, by rw [c]; rfl, by rw [c]; rfl, by rw [c]; rfl, fun i => Lib.frozen_of_heap h.pr i⟩

theorem ownsRow_one {w : World} {B n : Nat} {v : Value} {xs : List Value} (h : w.ownsRow B 4 1 v (n + 1) xs) : ∃ g cap, v = .slice (some ⟨g, 0, none⟩) (n + 1) cap := by
  rcases h.2 with ⟨_, h0⟩ | ⟨g, cap, cur, hv, _⟩
  · omega
  · exact ⟨g, cap, hv⟩
theorem grown_drew {w w1 : World} {row : Option Nat} (h : w.drew.grownBy w1 row) : w.grownBy w1 row := ⟨h.os, h.tape, h.output, h.size, h.block⟩
theorem lv_mk {B p k r last lev lev2 : Nat} {ls ls2 : List Bool} {m : Nat} {v2 : Value} {w w' : World} (h : LP B p k r last lev2 ls2 v2 w') (hl : ls2.length = m) (ht : lev2 + trues ls = lev + trues ls2) (h1 : lev2 ≤ lev + 1) (hb : Below B w w') : LvOut B p k r last lev ls m w (.returned (.tuple #[])) w' := ⟨rfl, lev2, ls2, v2, h, hl, ht, h1, hb⟩
theorem trues_snoc (ls : List Bool) (b : Bool) : trues (ls ++ [b]) = trues ls + (if b then 1 else 0) := by
  unfold trues; rw [List.count_append]; cases b <;> rfl

set_option maxRecDepth 20000 in
set_option maxHeartbeats 4000000 in
/-- the level rises -/
theorem inc15a (B p k r last lev : Nat) (ls : List Bool) (v : Value) (w : World) (h : LP B p k r last lev ls v w) (hl : lev + 1 < 18446744073709551616) (hn : ls.length + 1 ≤ 1073741824) (hc : lev ≤ last) :
    Calls Try.prog 15 #[.pointer (some ⟨p, 0, none⟩)] w (LvOut B p k r last lev ls (ls.length + 1) w) := by
  obtain ⟨i4, hi, hz, hs, hb⟩ := inf4
  obtain ⟨c20, c21, c22, c0, c10, c5, ff⟩ := h.cells
  have H := Lib.hid h
  have hci : (lev : Int) ≤ (last : Int) := by omega
  have f21 := ff 21
  have h1 : LP B p k r last (lev + 1) ls v (w.setCell ⟨p, 21, none⟩ (.int .u64 ((lev : Int) + 1))) := h.set 21 _ rfl
  have ON := Lib.hid h1.own
  have H1 := Lib.hid h1
  have B1 : Hid (Below B w (w.setCell ⟨p, 21, none⟩ (.int .u64 ((lev : Int) + 1)))) := Lib.hid ((Below.refl B w).setCell h.lp _)
  clear h h1 ff
  go_enter Try.func15, Try.ntmps15
  go_wp2
  go_big_region
  go_wp2_with (at_builtin; refine wpList_append_own _ rfl _ _ 23 rfl B 4 i4 (.bool false) 1 1 Try.underlying23 hi hz hs hb rfl (by decide) _ _ _ rfl (ON.out.alloc _) ⟨w.heap.size, 0, none⟩ 1 1 [.bool true] rfl rfl (newsN (cs := #[.bool true]) _ (by simp [World.setCell])) (fun u hu => by rw [List.mem_singleton.1 hu]; rfl) (by unfold maxLen; omega) (by omega) (by have := H.out.lt; simp [World.setCell]; omega) ?_)
  intro v1 w1 hown1 hgrow1 _
  obtain ⟨q1, q2, q3⟩ := LP.pushed H1.out hown1 (grown_drew hgrow1) hn
  have f22 : w1.frozen? ⟨p, 22, none⟩ = false := Lib.frozen_of_heap q1 22
  have Q2 := Lib.hid q2
  have Q3 := Lib.hid (B1.out.trans q3)
  have d22 : w1.cell? ⟨p, 22, none⟩ = some v := by rw [Lib.cell_of_heap q1]; rfl
  obtain ⟨g, cap, hv1⟩ := ownsRow_one hown1
  clear q1 q2 q3 hgrow1 hown1 ON H1 B1
  subst hv1
  go_wp2
  go_end0
  exact lv_mk Q2.out (by simp) (by rw [trues_snoc, if_pos rfl]; omega) (by omega) Q3.out
set_option maxRecDepth 20000 in
set_option maxHeartbeats 4000000 in
/-- the level rises: there is no record -/
theorem inc15b (B p k r last lev : Nat) (ls : List Bool) (v : Value) (w : World) (h : LP B p k r last lev ls v w) (hl : lev + 1 < 18446744073709551616) (hn : ls.length + 1 ≤ 1073741824) (hc : ¬ lev ≤ last) (he : ls = []) :
    Calls Try.prog 15 #[.pointer (some ⟨p, 0, none⟩)] w (LvOut B p k r last lev ls (ls.length + 1) w) := by
  obtain ⟨i4, hi, hz, hs, hb⟩ := inf4
  obtain ⟨c20, c21, c22, c0, c10, c5, ff⟩ := h.cells
  have H := Lib.hid h
  have hci : (last : Int) < (lev : Int) := by omega
  have hv0 : ∃ x cc, v = .slice x 0 cc := by
    have := h.own.2
    subst he
    rcases this with ⟨e, _⟩ | ⟨g, cap, cur, e, _⟩
    · exact ⟨_, _, e⟩
    · exact ⟨_, _, e⟩
  obtain ⟨x, cc, rfl⟩ := hv0
  have f21 := ff 21
  have h1 : LP B p k r last (lev + 1) ls (.slice x 0 cc) (w.setCell ⟨p, 21, none⟩ (.int .u64 ((lev : Int) + 1))) := h.set 21 _ rfl
  have ON := Lib.hid h1.own
  have H1 := Lib.hid h1
  have B1 : Hid (Below B w (w.setCell ⟨p, 21, none⟩ (.int .u64 ((lev : Int) + 1)))) := Lib.hid ((Below.refl B w).setCell h.lp _)
  clear h h1 ff
  go_enter Try.func15, Try.ntmps15
  go_wp2
  go_big_region
  go_wp2_with (at_builtin; refine wpList_append_own _ rfl _ _ 23 rfl B 4 i4 (.bool false) 1 1 Try.underlying23 hi hz hs hb rfl (by decide) _ _ _ rfl (ON.out.alloc _) ⟨w.heap.size, 0, none⟩ 1 1 [.bool true] rfl rfl (newsN (cs := #[.bool true]) _ (by simp [World.setCell])) (fun u hu => by rw [List.mem_singleton.1 hu]; rfl) (by unfold maxLen; omega) (by omega) (by have := H.out.lt; simp [World.setCell]; omega) ?_)
  intro v1 w1 hown1 hgrow1 _
  obtain ⟨q1, q2, q3⟩ := LP.pushed H1.out (by rw [he]; exact hown1) (grown_drew hgrow1) hn
  have f22 : w1.frozen? ⟨p, 22, none⟩ = false := Lib.frozen_of_heap q1 22
  have Q2 := Lib.hid q2
  have Q3 := Lib.hid (B1.out.trans q3)
  have d22 : w1.cell? ⟨p, 22, none⟩ = some (.slice x 0 cc) := by rw [Lib.cell_of_heap q1]; rfl
  obtain ⟨g, cap, hv1⟩ := ownsRow_one hown1
  clear q1 q2 q3 hgrow1 hown1 ON H1 B1
  subst hv1
  go_wp2
  go_end0
  subst he
  exact lv_mk Q2.out (by simp) (by rw [trues_snoc, if_pos rfl]; omega) (by omega) Q3.out
set_option maxRecDepth 20000 in
set_option maxHeartbeats 4000000 in
/-- the last record is false: a record alone -/
theorem inc15c (B p k r last lev : Nat) (ls : List Bool) (v : Value) (w : World) (h : LP B p k r last lev ls v w) (hl : lev + 1 < 18446744073709551616) (hn : ls.length + 1 ≤ 1073741824) (hc : ¬ lev ≤ last) (ls0 : List Bool) (he : ls = ls0 ++ [false]) :
    Calls Try.prog 15 #[.pointer (some ⟨p, 0, none⟩)] w (LvOut B p k r last lev ls (ls.length + 1) w) := by
  obtain ⟨i4, hi, hz, hs, hb⟩ := inf4
  obtain ⟨c20, c21, c22, c0, c10, c5, ff⟩ := h.cells
  have H := Lib.hid h
  have hci : (last : Int) < (lev : Int) := by omega
  have hlen : ls.length = ls0.length + 1 := by rw [he]; simp
  have ow := h.own
  rw [hlen] at ow
  obtain ⟨g, cap, rfl⟩ := ownsRow_one ow
  have hx : w.cell? ⟨g, ls0.length, none⟩ = some (.bool false) := by
    rw [ow.cellAt ls0.length (by omega), he]
    simp
  clear ow
  obtain ⟨n, hn0⟩ : ∃ n, n = ls0.length := ⟨_, rfl⟩
  have HE := Lib.hid he
  rw [← hn0] at hx hlen c22 h H
  rw [hlen] at hn
  have f21 := ff 21
  have ON := Lib.hid h.own
  have H1 := H
  have B1 : Hid (Below B w w) := Lib.hid (Below.refl B w)
  have hz0 : ((n : Int) + 1 == 0) = false := by rw [beq_eq_false_iff_ne]; omega
  rw [hlen] at ON
  clear h ff he hn0
  go_enter Try.func15, Try.ntmps15
  go_wp2
  go_big_region
  go_wp2
  go_big_region
  go_wp2_with (at_builtin; refine wpList_append_own _ rfl _ _ 23 rfl B 4 i4 (.bool false) 1 1 Try.underlying23 hi hz hs hb rfl (by decide) _ _ _ rfl (ON.out.alloc _) ⟨w.heap.size, 0, none⟩ 1 1 [.bool false] rfl rfl (newsN (cs := #[.bool false]) _ (by simp)) (fun u hu => by rw [List.mem_singleton.1 hu]; rfl) (by unfold maxLen; omega) (by omega) (Nat.le_trans H.out.lt (by simp)) ?_)
  intro v1 w1 hown1 hgrow1 _
  obtain ⟨q1, q2, q3⟩ := LP.pushed H1.out (by rw [hlen]; exact hown1) (grown_drew (grown_drew hgrow1)) (by omega)
  have f22 : w1.frozen? ⟨p, 22, none⟩ = false := Lib.frozen_of_heap q1 22
  have Q2 := Lib.hid q2
  have Q3 := Lib.hid (B1.out.trans q3)
  have d22 : w1.cell? ⟨p, 22, none⟩ = some (.slice (some ⟨g, 0, none⟩) (n + 1) cap) := by rw [Lib.cell_of_heap q1]; rfl
  obtain ⟨g, cap, hv1⟩ := ownsRow_one hown1
  clear q1 q2 q3 hgrow1 hown1 ON H1 B1
  subst hv1
  go_wp2
  go_end0
  exact lv_mk Q2.out (by rw [List.length_append, hlen]; rfl) (by rw [trues_snoc, if_neg (by decide)]; omega) (by omega) Q3.out
/-- the last record is set anew -/
theorem LP.moved {B p k r last lev n g cap : Nat} {ls : List Bool} {w : World} (h : LP B p k r last lev ls (.slice (some ⟨g, 0, none⟩) (n + 1) cap) w) (ls0 : List Bool) (b c : Bool) (he : ls = ls0 ++ [b]) (hn : n = ls0.length) :
    LP B p k r last lev (ls0 ++ [c]) (.slice (some ⟨g, 0, none⟩) (n + 1) cap) (w.setCell ⟨g, n, none⟩ (.bool c)) := by
  obtain ⟨m, hm⟩ := h.bd
  obtain ⟨a1, a2, a3, a4, a5⟩ := h.bdNe hm
  have g1 : g ≠ k := fun e => a3 (by rw [e]; rfl)
  have g2 : g ≠ r := fun e => a4 (by rw [e]; rfl)
  have g3 : g ≠ p := fun e => a5 (by rw [e]; rfl)
  have hlen : ls.length = n + 1 := by rw [he, List.length_append, hn]; rfl
  have ow := h.own
  rw [hlen] at ow
  have st := (ow.stored n (.bool c)).1
  refine ⟨(Below.heap_setCell _ _ _ _ (Ne.symm g3)).trans h.pr, ?_, ⟨m, hm.kept fun j hj => Below.heap_setCell _ _ _ _ ?_⟩, h.lp, by have := h.hl; rw [List.length_append, ← hn]; rw [hlen] at this; exact this⟩
  · rw [show (ls0 ++ [c]).length = n + 1 by rw [List.length_append, ← hn]; rfl]
    have e : (ls.map Value.bool).set n (.bool c) = (ls0 ++ [c]).map Value.bool := by
      rw [he, List.map_append, List.map_append, hn]
      simp
    rw [← e]
    exact st
  · rcases hj with rfl | rfl
    · exact Ne.symm g1
    · exact Ne.symm g2

set_option maxRecDepth 20000 in
set_option maxHeartbeats 4000000 in
/-- the last record is true: it is moved -/
theorem inc15d (B p k r last lev : Nat) (ls : List Bool) (v : Value) (w : World) (h : LP B p k r last lev ls v w) (hl : lev + 1 < 18446744073709551616) (hn : ls.length + 1 ≤ 1073741824) (hc : ¬ lev ≤ last) (ls0 : List Bool) (he : ls = ls0 ++ [true]) :
    Calls Try.prog 15 #[.pointer (some ⟨p, 0, none⟩)] w (LvOut B p k r last lev ls (ls.length + 1) w) := by
  obtain ⟨i4, hi, hz, hs, hb⟩ := inf4
  obtain ⟨c20, c21, c22, c0, c10, c5, ff⟩ := h.cells
  have H := Lib.hid h
  have hci : (last : Int) < (lev : Int) := by omega
  have hlen : ls.length = ls0.length + 1 := by rw [he]; simp
  have ow := h.own
  rw [hlen] at ow
  obtain ⟨g, cap, rfl⟩ := ownsRow_one ow
  have hx : w.cell? ⟨g, ls0.length, none⟩ = some (.bool true) := by
    rw [ow.cellAt ls0.length (by omega), he]
    simp
  have ofz := ow.frozenAt ls0.length
  clear ow
  obtain ⟨n, hn0⟩ : ∃ n, n = ls0.length := ⟨_, rfl⟩
  have HE := Lib.hid he
  have HN1 := Lib.hid hn0
  rw [← hn0] at hx hlen c22 h H ofz
  rw [hlen] at hn
  have f21 := ff 21
  have h1 := h.moved ls0 true false (by rw [HE.out]) hn0
  have ON := Lib.hid h1.own
  have H1 := Lib.hid h1
  have B1 : Hid (Below B w (w.setCell ⟨g, n, none⟩ (.bool false))) := Lib.hid ((Below.refl B w).setCell (h.own.lt g rfl).1 _)
  have fx : w.frozen? ⟨g, n, none⟩ = false := ofz
  have gp : g ≠ p := fun e => own_ne h.own h.pr (by decide) (by rw [e]; rfl)
  have e22 : (w.setCell ⟨g, n, none⟩ (.bool false)).cell? ⟨p, 22, none⟩ = some (.slice (some ⟨g, 0, none⟩) (n + 1) cap) := (World.cell?_of_block (a := ⟨p, 22, none⟩) (Below.heap_setCell _ _ _ _ (Ne.symm gp))).trans c22
  have hz0 : ((n : Int) + 1 == 0) = false := by rw [beq_eq_false_iff_ne]; omega
  rw [show (ls0 ++ [false]).length = n + 1 by rw [List.length_append, ← HN1.out]; rfl] at ON
  clear h h1 ff he ofz hn0
  go_enter Try.func15, Try.ntmps15
  go_wp2
  go_big_region
  go_wp2
  go_big_region
  go_wp2_with (at_builtin; refine wpList_append_own _ rfl _ _ 23 rfl B 4 i4 (.bool false) 1 1 Try.underlying23 hi hz hs hb rfl (by decide) _ _ _ rfl (ON.out.alloc _) ⟨w.heap.size, 0, none⟩ 1 1 [.bool true] rfl rfl (newsN (cs := #[.bool true]) _ (by simp [World.setCell])) (fun u hu => by rw [List.mem_singleton.1 hu]; rfl) (by unfold maxLen; omega) (by omega) (Nat.le_trans H.out.lt (by simp)) ?_)
  intro v1 w1 hown1 hgrow1 _
  obtain ⟨q1, q2, q3⟩ := LP.pushed (b := true) H1.out (by rw [show (ls0 ++ [false]).length = n + 1 by rw [List.length_append, ← HN1.out]; rfl, List.map_append, List.append_assoc]; exact hown1) (grown_drew (grown_drew hgrow1)) (by rw [show (ls0 ++ [false]).length = n + 1 by rw [List.length_append, ← HN1.out]; rfl]; omega)
  have f22 : w1.frozen? ⟨p, 22, none⟩ = false := Lib.frozen_of_heap q1 22
  have Q2 := Lib.hid q2
  have Q3 := Lib.hid (B1.out.trans q3)
  have d22 : w1.cell? ⟨p, 22, none⟩ = some (.slice (some ⟨g, 0, none⟩) (n + 1) cap) := by rw [Lib.cell_of_heap q1]; rfl
  obtain ⟨g, cap, hv1⟩ := ownsRow_one hown1
  clear q1 q2 q3 hgrow1 hown1 ON H1 B1
  subst hv1
  go_wp2
  go_end0
  exact lv_mk Q2.out (by rw [List.length_append, List.length_append, ← HN1.out]; rfl) (by rw [HE.out, trues_snoc, trues_snoc, trues_snoc]; simp) (by omega) Q3.out

theorem inc15 (B p k r last lev : Nat) (ls : List Bool) (v : Value) (w : World) (h : LP B p k r last lev ls v w) (hl : lev + 1 < 18446744073709551616) (hn : ls.length + 1 ≤ 1073741824) :
    Calls Try.prog 15 #[.pointer (some ⟨p, 0, none⟩)] w (LvOut B p k r last lev ls (ls.length + 1) w) := by
  by_cases hc : lev ≤ last
  · exact inc15a B p k r last lev ls v w h hl hn hc
  · by_cases he : ls = []
    · exact inc15b B p k r last lev ls v w h hl hn hc he
    · obtain ⟨ls0, b, e⟩ : ∃ ls0 b, ls = ls0 ++ [b] := ⟨ls.dropLast, ls.getLast he, (List.dropLast_concat_getLast he).symm⟩
      cases b with
      | false => exact inc15c B p k r last lev ls v w h hl hn hc ls0 e
      | true => exact inc15d B p k r last lev ls v w h hl hn hc ls0 e
end Go.Proofs.Ytopaaaacbegmnaa
