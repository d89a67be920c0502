/-
  The walk of NewPrinter with two options, of reset, and of the writer's Reset. Conditions: those in each theorem.
-/
import Derived.Test.YtonhphjejlidiaaNp
namespace Go.Proofs.Ytonhphjejlidiaa
set_option linter.unusedVariables false
open Go.Shelf Go.RowKit Go.Lib

/-- the fields of a new printer -/
def zeroF : PF := ⟨0, false, 0, false, false, 0, false, false, false, false, 0, 0, 0⟩

/-- a printer as NewPrinter hands it out: the writer's row at r, the writer at k, itself at p -/
structure NewP (w : World) (kp : Bool) (f : PF) (k r p tw : Nat) (w' : World) : Prop where
  pr : w'.heap[p]? = some (.cells (pcells kp k p tw f) 87 (0, 0))
  wr : w'.heap[k]? = some (.cells #[.nilIface, .slice (some ⟨r, 0, none⟩) 4096 4096, .int .i64 0, .nilIface] 151 (0, 0))
  row : ∃ M : Array Value, M.size = 4096 ∧ w'.heap[r]? = some (.cells M 5 (0, 0))
  kn : w.heap.size ≤ k
  rn : w.heap.size ≤ r
  pn : w.heap.size ≤ p
  nkp : k ≠ p
  nrp : r ≠ p
  nkr : k ≠ r
  below : Below w.heap.size w w'

/-- behind the printer's own laying -/
theorem new_laid (w w1 W2 : World) (hF : Fresh w w1) (T : Array Value) (hW : (w1.alloc (.cells T 133)).alloc (.cells (pcells false (w.heap.size + 1) (w1.heap.size + 1) w1.heap.size zeroF) 87) = W2) :
    w1.heap.size = w.heap.size + 2 ∧ NewP w false zeroF (w.heap.size + 1) w.heap.size (w.heap.size + 3) (w.heap.size + 2) W2 := by
  obtain ⟨M, hM, rfl⟩ := hF
  subst hW
  have e : ((w.alloc (.cells M 5)).alloc (.cells #[.nilIface, .slice (some ⟨w.heap.size, 0, none⟩) 4096 4096, .int .i64 0, .nilIface] 151)).heap.size = w.heap.size + 2 := by simp
  refine ⟨e, ?_⟩
  rw [e]
  have hb : Below w.heap.size w ((((w.alloc (.cells M 5)).alloc (.cells #[.nilIface, .slice (some ⟨w.heap.size, 0, none⟩) 4096 4096, .int .i64 0, .nilIface] 151)).alloc (.cells T 133)).alloc (.cells (pcells false (w.heap.size + 1) (w.heap.size + 3) (w.heap.size + 2) zeroF) 87)) :=
    ((((Below.refl _ _).alloc (Nat.le_refl _) _).alloc (by simp) _).alloc (by simp; omega) _).alloc (by simp; omega) _
  refine ⟨?_, ?_, ⟨M, hM, ?_⟩, by omega, by omega, by omega, by omega, by omega, by omega, hb⟩
  · have h := heap_alloc_new (((w.alloc (.cells M 5)).alloc (.cells #[.nilIface, .slice (some ⟨w.heap.size, 0, none⟩) 4096 4096, .int .i64 0, .nilIface] 151)).alloc (.cells T 133)) (.cells (pcells false (w.heap.size + 1) (w.heap.size + 3) (w.heap.size + 2) zeroF) 87)
    simpa using h
  · rw [Below.heap_alloc _ _ _ (by simp), Below.heap_alloc _ _ _ (by simp)]
    have h := heap_alloc_new (w.alloc (.cells M 5)) (.cells #[.nilIface, .slice (some ⟨w.heap.size, 0, none⟩) 4096 4096, .int .i64 0, .nilIface] 151)
    simpa using h
  · rw [Below.heap_alloc _ _ _ (by simp; omega), Below.heap_alloc _ _ _ (by simp; omega), Below.heap_alloc _ _ _ (by simp)]
    exact heap_alloc_new w _

theorem NewP.turn {w : World} {kp kp2 : Bool} {f f2 : PF} {k r p tw : Nat} {W W2 : World} (h : NewP w kp f k r p tw W) (h1 : W2.heap[p]? = some (.cells (pcells kp2 k p tw f2) 87 (0, 0))) (h2 : ∀ v, FrS (P1 p) v v W W2) : NewP w kp2 f2 k r p tw W2 := by
  have hx : ∀ i, i < W.heap.size → i ≠ p → W2.heap[i]? = W.heap[i]? := fun i hi hn => (h2 (.slice none 0 0)).block i hi hn (by simp [Value.ownBlock])
  obtain ⟨M, hM, hr⟩ := h.row
  refine ⟨h1, (hx k (Lib.lt_of_heap h.wr) h.nkp).trans h.wr, ⟨M, hM, (hx r (Lib.lt_of_heap hr) h.nrp).trans hr⟩, h.kn, h.rn, h.pn, h.nkp, h.nrp, h.nkr, ?_⟩
  have g := h2 (.slice none 0 0)
  exact ⟨g.os.trans h.below.os, g.tape.trans h.below.tape, g.output.trans h.below.output, Nat.le_trans h.below.size g.size, fun i hi => (hx i (Nat.lt_of_lt_of_le hi h.below.size) (by have := h.pn; omega)).trans (h.below.block i hi)⟩
theorem NewP.cell {w : World} {kp : Bool} {f : PF} {k r p tw : Nat} {W : World} (h : NewP w kp f k r p tw W) {a : Addr} {x : Value} (hc : w.cell? a = some x) : W.cell? a = some x :=
  (World.cell?_of_block (h.below.block a.block (World.block_lt_of_cell? w a hc))).trans hc

set_option maxRecDepth 20000 in
set_option maxHeartbeats 8000000 in
theorem new48 (o bi bk ind c : Nat) (kp : Bool) (w : World) (h0 : w.cell? ⟨o, 0, none⟩ = some (.func (.func 63) #[] #[.pointer (some ⟨bi, 0, none⟩)])) (h1 : w.cell? ⟨o, 1, none⟩ = some (.func (.func 64) #[] #[.pointer (some ⟨bk, 0, none⟩)]))
    (hbi : w.cell? ⟨bi, 0, none⟩ = some (.int .u64 ind)) (hbk : w.cell? ⟨bk, 0, none⟩ = some (.bool kp)) :
    Calls Try.prog 48 #[.slice (some ⟨o, 0, none⟩) 2 c] w fun e w' => e = .returned (.pointer (some ⟨w.heap.size + 3, 0, none⟩)) ∧ NewP w kp { zeroF with ind := ind } (w.heap.size + 1) w.heap.size (w.heap.size + 3) (w.heap.size + 2) w' := by
  go_enter Try.func48, Try.ntmps48
  go_wp2_with (go_at_call 62; refine (writer62 w).mono ?_; rintro e w1 ⟨rfl, hF⟩; have HF := Lib.hid hF; clear hF)
  generalize hW : World.alloc (World.alloc w1 _) _ = W2
  obtain ⟨hs1, hN⟩ := new_laid w w1 W2 HF.out _ hW
  have N1 := Lib.hid hN
  clear hW hN HF
  have hs2 : w1.heap.size + 1 = w.heap.size + 3 := by omega
  rw [hs2, hs1]
  have kc := fun (W : World) (kp : Bool) (f : PF) (H : NewP w kp f (w.heap.size + 1) w.heap.size (w.heap.size + 3) (w.heap.size + 2) W) => And.intro (H.cell h0) (And.intro (H.cell h1) (And.intro (H.cell hbi) (H.cell hbk)))
  have KC := Lib.hid kc
  have hbkp : bk ≠ w.heap.size + 3 := by have := World.block_lt_of_cell? w _ hbk; simp only at this; omega
  obtain ⟨d0, d1, dbi, dbk⟩ := KC.out _ _ _ N1.out
  clear kc h0 h1 hbi hbk hs1 hs2
  refine wp_loop_rounds 3 ?_
  rw [rounds_succ]
  go_wp2_with (go_at_call 63; refine (ind63 false (w.heap.size + 1) (w.heap.size + 3) (w.heap.size + 2) bi ind zeroF _ N1.out.pr dbi).mono ?_; rintro e w3 ⟨rfl, t1, t2⟩; have N2 := Lib.hid (N1.out.turn t1 t2); clear t1 t2 N1 d0 d1 dbi dbk)
  obtain ⟨d0, d1, dbi, dbk⟩ := KC.out _ _ _ N2.out
  rw [rounds_succ]
  go_wp2_with (go_at_call 64; refine (keep64 (w.heap.size + 1) (w.heap.size + 3) (w.heap.size + 2) bk kp { zeroF with ind := ind } _ N2.out.pr dbk hbkp).mono ?_; rintro e w4 ⟨rfl, t1, t2⟩; have N3 := Lib.hid (N2.out.turn t1 t2); clear t1 t2 N2 d0 d1 dbi dbk)
  rw [rounds_succ]
  go_wp2
  go_ret
  exact ⟨rfl, N3.out⟩
end Go.Proofs.Ytonhphjejlidiaa
