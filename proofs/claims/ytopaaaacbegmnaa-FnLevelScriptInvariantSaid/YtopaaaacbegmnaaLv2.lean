/-
  The walks of bufio.Writer's WriteByte over the dropping sink, and of the making of a printer. Conditions: those in each theorem.
-/
import Derived.Test.YtopaaaacbegmnaaLv1
namespace Go.Proofs.Ytopaaaacbegmnaa
set_option linter.unusedVariables false
open Go.Shelf Go.RowKit Go.Lib

/-- what WriteByte leaves -/
def ByteOut (B k r : Nat) (w : World) (e : Ending) (w' : World) : Prop := e = .returned .nilIface ∧ (∃ n, BD B k r n w') ∧ Fx (S2 k r) w w'

set_option maxRecDepth 20000 in
set_option maxHeartbeats 2000000 in
theorem byte37 (B k r n : Nat) (c : Int) (w : World) (h : BD B k r n w) (h0 : 0 ≤ c) (h1 : c < 256) : Calls Try.prog 37 #[.pointer (some ⟨k, 0, none⟩), .int .u8 c] w (ByteOut B k r w) := by
  have c0 := h.c0
  have c1 := h.c1
  have c2 := h.c2
  have nkr := h.nkr
  have hf := h.fits
  have fk := h.f 2
  obtain ⟨rc, hrow, hrs⟩ := h.row
  have mixed : Try.prog.follows .mixedOrders = true := by kernel_rfl
  have H := Lib.hid h
  have AV := Lib.hid (avail36 k n r w c1 c2 hf)
  by_cases hn : n < 4096
  · have hr0 := Lib.cell_of_heap hrow n
    obtain ⟨old, hr1⟩ : ∃ old, rc[n]? = some old := ⟨_, Array.getElem?_eq_getElem (by rw [hrs]; exact hn)⟩
    rw [hr1] at hr0
    have fr := Lib.frozen_of_heap hrow n
    have hni : (n : Int) < 4096 := by omega
    clear h hrow hrs hr1
    go_enter Try.func37, Try.ntmps37
    go_wp2_with (go_at_call 36; refine AV.out.mono ?_; rintro e w1 ⟨rfl, d, hw1⟩; have d0 : w1.cell? ⟨k, 0, none⟩ = some .nilIface := (by rw [hw1]; exact c0); have d1 : w1.cell? ⟨k, 1, none⟩ = some (.slice (some ⟨r, 0, none⟩) 4096 4096) := (by rw [hw1]; exact c1); have d2 : w1.cell? ⟨k, 2, none⟩ = some (.int .i64 n) := (by rw [hw1]; exact c2); have dr : w1.cell? ⟨r, n, none⟩ = some old := (by rw [hw1]; exact hr0); have er : w1.frozen? ⟨r, n, none⟩ = false := (by rw [hw1]; exact fr); have ek : w1.frozen? ⟨k, 2, none⟩ = false := (by rw [hw1]; exact fk); have g2 : ∀ x, (w1.drew.setCell ⟨r, n, none⟩ x).cell? ⟨k, 2, none⟩ = some (.int .i64 n) := (fun x => (World.cell?_of_block (a := ⟨k, 2, none⟩) (Below.heap_setCell _ _ _ _ nkr)).trans d2); have gf : ∀ x, (w1.drew.setCell ⟨r, n, none⟩ x).frozen? ⟨k, 2, none⟩ = false := (fun x => (World.frozen?_of_block (a := ⟨k, 2, none⟩) (Below.heap_setCell _ _ _ _ nkr)).trans ek); have HW := Lib.hid hw1; clear hw1 AV c0 c1 c2 hr0 fr fk)
    go_big_region
    go_wp2
    go_ret
    have h1 : BD B k r n w1.drew := by rw [HW.out]; exact H.out.kept (w' := (w.drewN d).drew) (fun _ _ => rfl)
    have f1 : Fx (S2 k r) w w1.drew := by rw [HW.out]; exact ((Fx.refl _ w).drewN d).drewN 1
    exact ⟨rfl, ⟨n + 1, by have := (h1.put n (.int .u8 c)).count (n + 1) hn; exact this⟩, (f1.set (a := ⟨r, n, none⟩) (.inr rfl) _).set (a := ⟨k, 2, none⟩) (.inl rfl) _⟩
  · have hn4 : n = 4096 := by omega
    subst hn4
    have FL : Hid (∀ d, Calls Try.prog 38 #[.pointer (some ⟨k, 0, none⟩)] (w.drewN d) fun e w' => e = .returned .nilIface ∧ BD B k r 0 w' ∧ Fx (S2 k r) (w.drewN d) w') := Lib.hid fun d => flush38 B k r 4096 _ (H.out.kept (w' := w.drewN d) (fun _ _ => rfl))
    clear h hrow hrs c1 c2 hf
    go_enter Try.func37, Try.ntmps37
    go_wp2_with (first | (go_at_call 36; refine AV.out.mono ?_; rintro e w1 ⟨rfl, d, hw1⟩; rw [hw1]; clear hw1 AV) | (go_at_call 38; refine (FL.out _).mono ?_; rintro e w2 ⟨rfl, h2, hf2⟩; have d0 := h2.c0; have d1 := h2.c1; have d2 : w2.cell? ⟨k, 2, none⟩ = some (.int .i64 0) := h2.c2; have ek := h2.f 2; obtain ⟨rc, hrow2, hrs2⟩ := h2.row; have er := Lib.frozen_of_heap hrow2 0; obtain ⟨old, dr⟩ : ∃ old, w2.cell? ⟨r, 0, none⟩ = some old := (by rw [Lib.cell_of_heap hrow2]; exact ⟨_, Array.getElem?_eq_getElem (by rw [hrs2]; omega)⟩); have g2 : ∀ x, (w2.drew.setCell ⟨r, 0, none⟩ x).cell? ⟨k, 2, none⟩ = some (.int .i64 0) := (fun x => (World.cell?_of_block (a := ⟨k, 2, none⟩) (Below.heap_setCell _ _ _ _ nkr)).trans d2); have gf : ∀ x, (w2.drew.setCell ⟨r, 0, none⟩ x).frozen? ⟨k, 2, none⟩ = false := (fun x => (World.frozen?_of_block (a := ⟨k, 2, none⟩) (Below.heap_setCell _ _ _ _ nkr)).trans ek); have H2 := Lib.hid h2; have HF := Lib.hid hf2; clear h2 hf2 FL hrow2 hrs2))
    go_big_region
    go_wp2
    go_ret
    have h2 := ((H2.out.kept (w' := w2.drew) (fun _ _ => rfl)).put 0 (.int .u8 c)).count 1 (by omega)
    have f1 : Fx (S2 k r) w w2.drew := (Fx.ofDrewN HF.out).drewN 1
    exact ⟨rfl, ⟨1, h2⟩, (f1.set (a := ⟨r, 0, none⟩) (.inr rfl) _).set (a := ⟨k, 2, none⟩) (.inl rfl) _⟩

theorem info5 : ∃ i z, Try.prog.info? 5 = some i ∧ i.zero = some z ∧ i.size = 1 ∧ i.bytes = 1 ∧ z = Value.int .u8 0 := by
  have h : (Try.prog.info? 5).map (fun i => (i.zero, i.size, i.bytes)) = some (some (.int .u8 0), 1, 1) := by kernel_rfl
  obtain ⟨i, h1, h2, h3, h4⟩ := info_parts h
  exact ⟨i, _, h1, h2, h3, h4, rfl⟩
theorem make24 : ∃ M : Array Value, M.size = 4096 ∧ ∀ W : World, (Instr.makeSlice 24 (.int .i64 4096) (.int .i64 4096)).run Try.prog W = .ok (.slice (some ⟨W.heap.size, 0, none⟩) 4096 4096) (W.alloc (.cells M 5)) := by
  obtain ⟨i0, z0, hi, hz0, hz1, hz2, rfl⟩ := info5
  refine ⟨madeCells (Value.int .u8 0).cells ((4096 : Int).toNat * i0.size), by rw [size_madeCells, hz1]; rfl, fun W => ?_⟩
  have h := run_makeSlice (P := Try.prog) W 24 5 i0 (.int .u8 0) Try.underlying24 hi hz0 .i64 .i64 4096 4096 (by omega) (by omega) (by rw [hz1]; decide) (by rw [hz2]; decide) (by decide)
  simpa using h

/-- a fresh bufio.Writer: its row at r, itself at r + 1 -/
def Fresh (w w' : World) (e : Ending) : Prop :=
  ∃ M : Array Value, M.size = 4096 ∧ e = .returned (.pointer (some ⟨w.heap.size + 1, 0, none⟩)) ∧ w' = (w.alloc (.cells M 5)).alloc (.cells (bcells w.heap.size 0) 57)

set_option maxRecDepth 20000 in
set_option maxHeartbeats 4000000 in
theorem writer18 (w : World) : Calls Try.prog 18 #[.iface 36 (.agg #[]), .int .i64 4096] w fun e w' => Fresh w w' e := by
  obtain ⟨M, hM, hmk⟩ := make24
  have ta : ∀ w, (Instr.typeAssert (.iface 36 (.agg #[])) 48 33 true).run Try.prog w = .ok (.tuple #[.pointer none, .bool false]) w := fun w => by kernel_rfl
  go_enter Try.func18, Try.ntmps18
  go_wp2
  go_ret
  exact ⟨M, hM, rfl, rfl⟩
theorem writer14 (w : World) : Calls Try.prog 14 #[.iface 36 (.agg #[])] w fun e w' => Fresh w w' e := by
  have N := Lib.hid (writer18 w)
  go_enter Try.func14, Try.ntmps14
  go_wp2_with (first | (go_at_call 18; go_must (refine N.out.mono ?_); rintro e w1 ⟨M, hM, rfl, rfl⟩))
  go_ret
  exact ⟨M, hM, rfl, rfl⟩

/-- the printer's twenty-six cells -/
def pcells (k last lev : Nat) (v : Value) : Array Value :=
  #[.iface 33 (.pointer (some ⟨k, 0, none⟩)), .pointer none, .pointer none, .int .i64 0, .bool false, .int .u64 0, .bool false, .bool false, .bool false, .bool false, .bool false, .bool false, .bool false, .int .u8 0, .bool false, .bool false, .bool false, .slice none 0 0, .bool false, .int .u64 0, .int .u64 last, .int .u64 lev, v, .bool false, .slice none 0 0, .pointer none]

set_option maxRecDepth 20000 in
set_option maxHeartbeats 4000000 in
theorem new6 (lev last : Nat) (a : Option Addr) (n c : Nat) (w : World) (h1 : lev < 18446744073709551616) (h2 : last < 18446744073709551616) : Calls Try.prog 6 #[.int .u64 lev, .int .u64 last, .slice a n c] w fun e w' => ∃ M : Array Value, M.size = 4096 ∧ e = .returned (.pointer (some ⟨w.heap.size + 2, 0, none⟩)) ∧ w' = ((w.alloc (.cells M 5)).alloc (.cells (bcells w.heap.size 0) 57)).alloc (.cells (pcells (w.heap.size + 1) last lev (.slice a n c)) 46) := by
  have N := Lib.hid (fun W => writer14 W)
  go_enter Try.func6, Try.ntmps6
  go_wp2_with (first | (go_at_call 14; go_must (refine (N.out _).mono ?_); rintro e w1 ⟨M, hM, rfl, rfl⟩))
  go_ret
  exact ⟨M, hM, rfl, rfl⟩

/-- the printer at block p over the writer at k, its records ls in v's own row -/
structure LP (B p k r last lev : Nat) (ls : List Bool) (v : Value) (w : World) : Prop where
  pr : w.heap[p]? = some (.cells (pcells k last lev v) 46 (0, 0))
  own : w.ownsRow B 4 1 v ls.length (ls.map Value.bool)
  bd : ∃ n, BD B k r n w
  lp : B ≤ p
  hl : ls.length ≤ 1073741824
theorem LP.lt {B p k r last lev : Nat} {ls : List Bool} {v : Value} {w : World} (h : LP B p k r last lev ls v w) : B ≤ w.heap.size := by
  have := Lib.lt_of_heap h.pr
  have := h.lp
  omega
/-- blocks of several types are several blocks -/
theorem ne_ty {w : World} {i j : Nat} {c1 c2 : Array Value} {t1 t2 : TypeId} {l1 l2 : Nat × Nat} (h1 : w.heap[i]? = some (.cells c1 t1 l1)) (h2 : w.heap[j]? = some (.cells c2 t2 l2)) (h : t1 ≠ t2) : i ≠ j := by
  rintro rfl
  rw [h1] at h2
  cases h2
  exact h rfl
theorem own_ne {w : World} {B : Nat} {v : Value} {n : Nat} {xs : List Value} {j : Nat} {c : Array Value} {t : TypeId} {l : Nat × Nat} (h : w.ownsRow B 4 1 v n xs) (h2 : w.heap[j]? = some (.cells c t l)) (ht : (4 : TypeId) ≠ t) : v.ownBlock ≠ some j := by
  rcases h.2 with ⟨rfl, _⟩ | ⟨g, cap, cur, rfl, _, hgb, _⟩
  · simp [Value.ownBlock]
  · intro e
    simp [Value.ownBlock] at e
    exact ne_ty hgb h2 ht e
theorem LP.bdNe {B p k r last lev n : Nat} {ls : List Bool} {v : Value} {w : World} (h : LP B p k r last lev ls v w) (hb : BD B k r n w) : p ≠ k ∧ p ≠ r ∧ v.ownBlock ≠ some k ∧ v.ownBlock ≠ some r ∧ v.ownBlock ≠ some p := by
  obtain ⟨rc, h1, h2⟩ := hb.row
  exact ⟨ne_ty h.pr hb.wr (by decide), ne_ty h.pr h1 (by decide), own_ne h.own hb.wr (by decide), own_ne h.own h1 (by decide), own_ne h.own h.pr (by decide)⟩

theorem own_kept {w w' : World} {B : Nat} {v : Value} {n : Nat} {xs : List Value} (h : w.ownsRow B 4 1 v n xs) (hv : ∀ g, v.ownBlock = some g → w'.heap[g]? = w.heap[g]?) : w'.ownsRow B 4 1 v n xs := by
  refine ⟨h.1, ?_⟩
  rcases h.2 with hr | ⟨g, cap, cur, rfl, hg, hgb, h3⟩
  · exact .inl hr
  · exact .inr ⟨g, cap, cur, rfl, hg, (hv g rfl).trans hgb, h3⟩
/-- behind a turn of the writer's two blocks -/
theorem LP.wrote {B p k r last lev : Nat} {ls : List Bool} {v : Value} {w w' : World} (h : LP B p k r last lev ls v w) (hf : Fx (S2 k r) w w') (hb : ∃ n, BD B k r n w') : LP B p k r last lev ls v w' := by
  obtain ⟨n, hn⟩ := h.bd
  obtain ⟨a1, a2, a3, a4, a5⟩ := h.bdNe hn
  refine ⟨(hf.block p (Lib.lt_of_heap h.pr) (by rintro (e | e) <;> contradiction)).trans h.pr, own_kept h.own fun g hg => hf.block g (h.own.lt g hg).2 ?_, hb, h.lp, h.hl⟩
  rintro (rfl | rfl)
  · exact a3 hg
  · exact a4 hg
/-- one of the printer's cells is set -/
theorem LP.set {B p k r last lev last2 lev2 : Nat} {ls : List Bool} {v : Value} {w : World} (h : LP B p k r last lev ls v w) (i : Nat) (x : Value) (hx : (pcells k last lev v).setIfInBounds i x = pcells k last2 lev2 v) : LP B p k r last2 lev2 ls v (w.setCell ⟨p, i, none⟩ x) := by
  obtain ⟨n, hn⟩ := h.bd
  obtain ⟨a1, a2, a3, a4, a5⟩ := h.bdNe hn
  refine ⟨by have := Lib.heap_setCell_same (i := i) h.pr x; rw [hx] at this; exact this, own_kept h.own fun g hg => Below.heap_setCell _ _ _ _ (by rintro rfl; exact a5 hg), ⟨n, hn.kept fun j hj => Below.heap_setCell _ _ _ _ ?_⟩, h.lp, h.hl⟩
  rcases hj with rfl | rfl
  · exact Ne.symm a1
  · exact Ne.symm a2
theorem LP.kept {B p k r last lev : Nat} {ls : List Bool} {v : Value} {w w' : World} (h : LP B p k r last lev ls v w) (hh : w'.heap = w.heap) : LP B p k r last lev ls v w' := by
  obtain ⟨n, hn⟩ := h.bd
  exact ⟨by rw [hh]; exact h.pr, own_kept h.own fun g hg => by rw [hh], ⟨n, hn.kept fun j hj => by rw [hh]⟩, h.lp, h.hl⟩
end Go.Proofs.Ytopaaaacbegmnaa
