/-
  The walks of the printer's decLevel and indent. Conditions: those in each theorem.
-/
import Derived.Test.YtopaaaacbegmnaaLv3
namespace Go.Proofs.Ytopaaaacbegmnaa
set_option linter.unusedVariables false
open Go.Shelf Go.RowKit Go.Lib

theorem own_shrink {w : World} {B g n cap : Nat} {xs : List Value} (h : w.ownsRow B 4 1 (.slice (some ⟨g, 0, none⟩) (n + 1) cap) (n + 1) xs) : w.ownsRow B 4 1 (.slice (some ⟨g, 0, none⟩) n cap) n (xs.take n) := by
  have h0 := h.1
  rcases h.2 with ⟨e, _⟩ | ⟨g', cap', cur, e, hg, hgb, hc, hm, hs, ht⟩
  · cases e
  · cases e
    refine ⟨by rw [List.length_take]; omega, .inr ⟨g, cap, cur, rfl, hg, hgb, by omega, hm, hs, ?_⟩⟩
    rw [← ht, List.take_take, Nat.min_eq_left (by omega), Nat.mul_one]
theorem own_cap {w : World} {B g n cap : Nat} {xs : List Value} (h : w.ownsRow B 4 1 (.slice (some ⟨g, 0, none⟩) n cap) n xs) : n ≤ cap ∧ cap ≤ maxLen := by
  rcases h.2 with ⟨e, _⟩ | ⟨g', cap', cur, e, hg, hgb, hc, hm, hs, ht⟩
  · cases e
  · cases e
    exact ⟨hc, hm⟩
/-- the last record is gone -/
theorem LP.popped {B p k r last lev n g cap : Nat} {ls : List Bool} {w : World} (h : LP B p k r last lev ls (.slice (some ⟨g, 0, none⟩) (n + 1) cap) w) (ls0 : List Bool) (b : Bool) (he : ls = ls0 ++ [b]) (hn : n = ls0.length) :
    LP B p k r last lev ls0 (.slice (some ⟨g, 0, none⟩) n cap) (w.setCell ⟨p, 22, none⟩ (.slice (some ⟨g, 0, none⟩) n cap)) := by
  obtain ⟨m, hm⟩ := h.bd
  obtain ⟨a1, a2, a3, a4, a5⟩ := h.bdNe hm
  have hlen : ls.length = n + 1 := by rw [he, List.length_append, hn]; rfl
  have ow := h.own
  rw [hlen] at ow
  have o2 := own_shrink ow
  have e : (ls.map Value.bool).take n = ls0.map Value.bool := by rw [he, List.map_append, hn, List.take_left' (by simp)]
  rw [e] at o2
  refine ⟨Lib.heap_setCell_same (i := 22) h.pr _, ?_, ⟨m, hm.kept fun j hj => Below.heap_setCell _ _ _ _ ?_⟩, h.lp, by have := h.hl; omega⟩
  · rw [← hn]
    exact own_kept o2 fun g2 hg => Below.heap_setCell _ _ _ _ (by rintro rfl; exact a5 hg)
  · rcases hj with rfl | rfl
    · exact Ne.symm a1
    · exact Ne.symm a2

set_option maxRecDepth 20000 in
set_option maxHeartbeats 4000000 in
theorem dec16 (B p k r last lev : Nat) (ls : List Bool) (v : Value) (w : World) (h : LP B p k r last lev ls v w) (hl : lev < 18446744073709551616) (ht : trues ls ≤ lev) (ls0 : List Bool) (b : Bool) (he : ls = ls0 ++ [b]) :
    Calls Try.prog 16 #[.pointer (some ⟨p, 0, none⟩)] w (LvOut B p k r last lev ls ls0.length w) := by
  obtain ⟨c20, c21, c22, c0, c10, c5, ff⟩ := h.cells
  have hlen : ls.length = ls0.length + 1 := by rw [he]; simp
  have ow := h.own
  rw [hlen] at ow
  obtain ⟨g, cap, rfl⟩ := ownsRow_one ow
  have hx : w.cell? ⟨g, ls0.length, none⟩ = some (.bool b) := by
    rw [ow.cellAt ls0.length (by omega), he]
    simp
  have hcp := own_cap ow
  clear ow
  obtain ⟨n, hn0⟩ : ∃ n, n = ls0.length := ⟨_, rfl⟩
  rw [← hn0] at hx hlen c22 h hcp ⊢
  have hc1 : (n : Int) + 1 ≤ (cap : Int) := by omega
  have hc2 : (n : Int) ≤ (cap : Int) := by omega
  clear hcp
  have f21 := ff 21
  have f22 := ff 22
  have ni : (n : Int) ≤ 1073741824 := by have := h.hl; omega
  have H := Lib.hid h
  cases b with
  | false =>
    have Q := Lib.hid (h.popped ls0 false he hn0)
    have HT : Hid (trues ls = trues ls0) := Lib.hid (by rw [he, trues_snoc, if_neg (by decide)]; rfl)
    have HN := Lib.hid hn0
    clear h ff he hn0
    go_enter Try.func16, Try.ntmps16
    go_wp2
    go_big_region
    go_wp2
    go_big_region
    go_wp2
    go_end0
    have q := Q.out.kept (w' := ((w.setCell ⟨p, 22, none⟩ (.slice (some ⟨g, 0, none⟩) n cap)).drew).drew) rfl
    exact lv_mk q HN.out.symm (by rw [HT.out]) (by omega) (((Below.refl B w).setCell H.out.lp _).drew.drew)
  | true =>
    have hl1 : 1 ≤ lev := by rw [he, trues_snoc, if_pos rfl] at ht; omega
    obtain ⟨l1, rfl⟩ : ∃ l1, lev = l1 + 1 := ⟨lev - 1, by omega⟩
    have hs1 : LP B p k r last l1 ls (.slice (some ⟨g, 0, none⟩) (n + 1) cap) (w.setCell ⟨p, 21, none⟩ (.int .u64 l1)) := h.set 21 _ rfl
    have Q := Lib.hid (hs1.popped ls0 true he hn0)
    have HT : Hid (trues ls = trues ls0 + 1) := Lib.hid (by rw [he, trues_snoc, if_pos rfl])
    have HN := Lib.hid hn0
    have e22 : (w.setCell ⟨p, 21, none⟩ (.int .u64 l1)).cell? ⟨p, 22, none⟩ = some (.slice (some ⟨g, 0, none⟩) (n + 1) cap) := by rw [Lib.cell_of_heap hs1.pr]; rfl
    have g22 : (w.setCell ⟨p, 21, none⟩ (.int .u64 l1)).frozen? ⟨p, 22, none⟩ = false := Lib.frozen_of_heap hs1.pr 22
    clear h ff he hn0 hs1
    go_enter Try.func16, Try.ntmps16
    go_wp2
    go_big_region
    go_wp2
    go_big_region
    go_wp2
    go_end0
    have q := Q.out.kept (w' := (((w.setCell ⟨p, 21, none⟩ (.int .u64 l1)).setCell ⟨p, 22, none⟩ (.slice (some ⟨g, 0, none⟩) n cap)).drew).drew) rfl
    exact lv_mk q HN.out.symm (by rw [HT.out]; omega) (by omega) ((((Below.refl B w).setCell H.out.lp _).setCell H.out.lp _).drew.drew)

/-- what a write leaves -/
theorem LP.byte {B p k r last lev : Nat} {ls : List Bool} {v : Value} {w : World} (h : LP B p k r last lev ls v w) (c : Int) (h0 : 0 ≤ c) (h1 : c < 256) : Calls Try.prog 37 #[.pointer (some ⟨k, 0, none⟩), .int .u8 c] w fun e w' => e = .returned .nilIface ∧ LP B p k r last lev ls v w' ∧ Below B w w' := by
  obtain ⟨n, hn⟩ := h.bd
  refine (byte37 B k r n c w hn h0 h1).mono ?_
  rintro e w' ⟨he, hb, hf⟩
  exact ⟨he, h.wrote hf hb, hf.os, hf.tape, hf.output, hf.size, fun i hi => hf.block i (Nat.lt_of_lt_of_le hi h.lt) (by
    have a1 := hn.lk
    have a2 := hn.lr
    rintro (e | e) <;> omega)⟩

/-- what indent leaves -/
def IndOut (B p k r lev : Nat) (ls : List Bool) (v : Value) (w : World) (e : Ending) (w' : World) : Prop := e = .returned (.tuple #[]) ∧ LP B p k r lev lev ls v w' ∧ Below B w w'
theorem ind_mk {B p k r lev : Nat} {ls : List Bool} {v : Value} {w w' : World} (h : LP B p k r lev lev ls v w') (hb : Below B w w') : IndOut B p k r lev ls v w (.returned (.tuple #[])) w' := ⟨rfl, h, hb⟩

set_option maxRecDepth 20000 in
set_option maxHeartbeats 4000000 in
theorem ind17 (B p k r last lev : Nat) (ls : List Bool) (v : Value) (w : World) (h : LP B p k r last lev ls v w) (hl : lev < 1048576) :
    Calls Try.prog 17 #[.pointer (some ⟨p, 0, none⟩)] w (IndOut B p k r lev ls v w) := by
  have meth : ∀ w, (method 233 33 (.pointer (some ⟨k, 0, none⟩)) "WriteByte").run Try.prog w = .ok (37, .pointer (some ⟨k, 0, none⟩)) w := fun w => by kernel_rfl
  obtain ⟨c20, c21, c22, c0, c10, c5, ff⟩ := h.cells
  have f20 := ff 20
  have h1 : LP B p k r lev lev ls v (w.setCell ⟨p, 20, none⟩ (.int .u64 lev)) := h.set 20 _ rfl
  have hb1 : Below B w (w.setCell ⟨p, 20, none⟩ (.int .u64 lev)) := (Below.refl B w).setCell h.lp _
  obtain ⟨d20, d21, d22, d0, d10, d5, gg⟩ := h1.cells
  by_cases h0 : lev = 0
  · subst h0
    have H1 := Lib.hid h1
    have HB1 := Lib.hid hb1
    clear h h1 ff gg hb1
    go_enter Try.func17, Try.ntmps17
    go_wp2
    go_end0
    exact ind_mk (H1.out.kept rfl) HB1.out
  · have h0i : ¬ (lev : Int) = 0 := by omega
    have H1 := Lib.hid h1
    have HB1 := Lib.hid hb1
    clear h h1 ff gg hb1
    go_enter Try.func17, Try.ntmps17
    go_wp2_with (go_at_call 37; refine (H1.out.byte 255 (by omega) (by omega)).mono ?_; rintro e w2 ⟨rfl, h2, b2⟩; have H2 := Lib.hid h2; have HB2 := Lib.hid (HB1.out.trans b2); clear h2 b2 H1 HB1 d20 d21 d22 d0 d10 d5 c20 c21 c22 c0 c10 c5 f20)
    go_loopg [2] (lev) (fun g v2 wr => ∃ i : Nat, v2 = .int .u64 i ∧ (i : Int) ≤ (lev : Int) ∧ lev - i ≤ g ∧ Hid (LP B p k r lev lev ls v wr) ∧ Hid (Below B w wr))
    case atStart => exact ⟨0, rfl, by omega, by omega, H2, HB2⟩
    case round =>
      clear H2 HB2
      obtain ⟨i, rfl, hi, hg, H2, HB2⟩ := hrel
      obtain ⟨c20, c21, c22, c0, c10, c5, ff⟩ := H2.out.cells
      clear ff
      by_cases hlt : (i : Int) < (lev : Int)
      · go_wp2_with (go_at_call 37; refine (H2.out.byte 9 (by omega) (by omega)).mono ?_; rintro e w3 ⟨rfl, h3, b3⟩; have H3 := Lib.hid h3; have HB3 := Lib.hid (HB2.out.trans b3); clear h3 b3 H2 HB2)
        go_roundg (lev - (i + 1))
        case measure => omega
        case rel => exact ⟨i + 1, by go_num, by omega, Nat.le_refl _, H3, HB3⟩
      · go_wp2_with (go_at_call 37; refine (H2.out.byte 255 (by omega) (by omega)).mono ?_; rintro e w3 ⟨rfl, h3, b3⟩; have H3 := Lib.hid h3; have HB3 := Lib.hid (HB2.out.trans b3); clear h3 b3 H2 HB2)
        go_end0
        exact ind_mk H3.out HB3.out
end Go.Proofs.Ytopaaaacbegmnaa
