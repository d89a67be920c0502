/-
  The walk of the making of a printer over a fresh buffer. Conditions: those in each theorem.
-/
import Derived.Test.YtonhphjejlidiaaNq
import Derived.Test.YtonhphjejlidiaaNr
namespace Go.Proofs.Ytonhphjejlidiaa
set_option linter.unusedVariables false
open Go.Shelf Go.RowKit Go.Lib

/-- the fields of a printer that is ready -/
def readyF (kp : Bool) (ind : Nat) : PF := wresetF kp (resetF { zeroF with ind := ind })

/-- what the exported maker hands back -/
def MadeP (kp : Bool) (f : PF) (w : World) (e : Ending) (w' : World) : Prop :=
  ∃ k r p tw, e = .returned (.tuple #[.pointer (some ⟨p, 0, none⟩), .pointer (some ⟨w.heap.size, 0, none⟩)]) ∧ PS w.heap.size w.heap.size k r p tw kp [] f (.slice none 0 0) w' ∧ Below w.heap.size w w'

structure Laid4 (w : World) (ind : Nat) (kp : Bool) (W0 : World) : Prop where
  size : W0.heap.size = w.heap.size + 4
  below : Below w.heap.size w W0
  buf : W0.heap[w.heap.size]? = some (.cells #[.slice none 0 0, .int .i64 0, .int .i8 0] 67 (0, 0))
  c0 : W0.cell? ⟨w.heap.size + 1 + 1 + 1, 0, none⟩ = some (.func (.func 63) #[] #[.pointer (some ⟨w.heap.size + 1, 0, none⟩)])
  c1 : W0.cell? ⟨w.heap.size + 1 + 1 + 1, 1, none⟩ = some (.func (.func 64) #[] #[.pointer (some ⟨w.heap.size + 1 + 1, 0, none⟩)])
  ci : W0.cell? ⟨w.heap.size + 1, 0, none⟩ = some (.int .u64 ind)
  ck : W0.cell? ⟨w.heap.size + 1 + 1, 0, none⟩ = some (.bool kp)

theorem laid4 (w W0 : World) (ind : Nat) (kp : Bool) (h : ((((w.alloc (.cells #[.slice none 0 0, .int .i64 0, .int .i8 0] 67)).alloc (.cells #[.int .u64 ind] 22)).alloc (.cells #[.bool kp] 4)).alloc (.cells #[.func (.func 63) #[] #[.pointer (some ⟨w.heap.size + 1, 0, none⟩)], .func (.func 64) #[] #[.pointer (some ⟨w.heap.size + 1 + 1, 0, none⟩)]] 73)) = W0) : Laid4 w ind kp W0 := by
  subst h
  have n1 := heap_alloc_new w (.cells #[.slice none 0 0, .int .i64 0, .int .i8 0] 67)
  have n2 := heap_alloc_new (w.alloc (.cells #[.slice none 0 0, .int .i64 0, .int .i8 0] 67)) (.cells #[.int .u64 ind] 22)
  have n3 := heap_alloc_new ((w.alloc (.cells #[.slice none 0 0, .int .i64 0, .int .i8 0] 67)).alloc (.cells #[.int .u64 ind] 22)) (.cells #[.bool kp] 4)
  have n4 := heap_alloc_new (((w.alloc (.cells #[.slice none 0 0, .int .i64 0, .int .i8 0] 67)).alloc (.cells #[.int .u64 ind] 22)).alloc (.cells #[.bool kp] 4)) (.cells #[.func (.func 63) #[] #[.pointer (some ⟨w.heap.size + 1, 0, none⟩)], .func (.func 64) #[] #[.pointer (some ⟨w.heap.size + 1 + 1, 0, none⟩)]] 73)
  have s1 : ∀ o, (w.alloc o).heap.size = w.heap.size + 1 := fun o => by simp
  have s2 : ∀ o o', ((w.alloc o).alloc o').heap.size = w.heap.size + 1 + 1 := fun o o' => by simp
  have s3 : ∀ o o' o'', (((w.alloc o).alloc o').alloc o'').heap.size = w.heap.size + 1 + 1 + 1 := fun o o' o'' => by simp
  rw [s1] at n2
  rw [s2] at n3
  rw [s3] at n4
  refine ⟨by simp, (((((Below.refl _ _).alloc (Nat.le_refl _) _).alloc (by rw [s1]; omega) _).alloc (by rw [s2]; omega) _).alloc (by rw [s3]; omega) _), ?_, ?_, ?_, ?_, ?_⟩
  · rw [Below.heap_alloc _ _ _ (by rw [s3]; omega), Below.heap_alloc _ _ _ (by rw [s2]; omega), Below.heap_alloc _ _ _ (by rw [s1]; omega)]; exact n1
  · rw [Lib.cell_of_heap n4]; rfl
  · rw [Lib.cell_of_heap n4]; rfl
  · have n : ∀ o o', (((w.alloc (.cells #[.slice none 0 0, .int .i64 0, .int .i8 0] 67)).alloc (.cells #[.int .u64 ind] 22)).alloc o |>.alloc o').heap[w.heap.size + 1]? = some (.cells #[.int .u64 ind] 22) := fun o o' => by
      rw [Below.heap_alloc _ _ _ (by rw [s3]; omega), Below.heap_alloc _ _ _ (by rw [s2]; omega)]; exact n2
    rw [Lib.cell_of_heap (n _ _)]; rfl
  · have n : ∀ o', (((w.alloc (.cells #[.slice none 0 0, .int .i64 0, .int .i8 0] 67)).alloc (.cells #[.int .u64 ind] 22)).alloc (.cells #[.bool kp] 4) |>.alloc o').heap[w.heap.size + 1 + 1]? = some (.cells #[.bool kp] 4) := fun o' => by
      rw [Below.heap_alloc _ _ _ (by rw [s3]; omega)]; exact n3
    rw [Lib.cell_of_heap (n _)]; rfl

/-- a printer with its writer set upon the buffer -/
theorem NewP.ready {w W0 : World} {kp : Bool} {f : PF} {k r p tw : Nat} {W W2 : World} (h : NewP W0 kp f k r p tw W) (hb : W0.heap[w.heap.size]? = some (.cells #[.slice none 0 0, .int .i64 0, .int .i8 0] 67 (0, 0))) (hs : w.heap.size < W0.heap.size) (hW : Below w.heap.size w W0)
    (h1 : W2.heap[k]? = some (.cells (bcells w.heap.size r 0) 151 (0, 0))) (h2 : ∀ v, FrS (P1 k) v v W W2) : PS w.heap.size w.heap.size k r p tw kp [] f (.slice none 0 0) W2 ∧ Below w.heap.size w W2 := by
  have hx : ∀ i, i < W.heap.size → i ≠ k → W2.heap[i]? = W.heap[i]? := fun i hi hn => (h2 (.slice none 0 0)).block i hi hn (by simp [Value.ownBlock])
  obtain ⟨M, hM, hr⟩ := h.row
  have hkn := h.kn
  have hrn := h.rn
  have hpn := h.pn
  have hWs := h.below.size
  have hb2 : W2.heap[w.heap.size]? = some (.cells #[.slice none 0 0, .int .i64 0, .int .i8 0] 67 (0, 0)) := (hx _ (by omega) (by omega)).trans ((h.below.block _ hs).trans hb)
  refine ⟨⟨⟨[], [], M, rfl, ⟨⟨⟨0, hb2⟩, .inl ⟨rfl, rfl⟩⟩, h1, (hx r (Lib.lt_of_heap hr) (Ne.symm h.nkr)).trans hr, hM, by simp [Lib.byteCells], by simp, by omega, by omega, h.nkr, by simp [Value.ownBlock], by simp [Value.ownBlock], Nat.le_refl _, by omega, by omega, fun g hg => by simp [Value.ownBlock] at hg⟩⟩, (hx p (Lib.lt_of_heap h.pr) (Ne.symm h.nkp)).trans h.pr, by omega, Ne.symm h.nkp, Ne.symm h.nrp, by simp [Value.ownBlock], by omega⟩, ?_⟩
  have g := h2 (.slice none 0 0)
  exact ⟨g.os.trans (h.below.os.trans hW.os), g.tape.trans (h.below.tape.trans hW.tape), g.output.trans (h.below.output.trans hW.output), Nat.le_trans hW.size (Nat.le_trans hWs g.size), fun i hi => (hx i (by omega) (by omega)).trans ((h.below.block i (by omega)).trans (hW.block i hi))⟩

theorem m_resetF (k : Nat) (w : World) : (method 373 79 (.pointer (some ⟨k, 0, none⟩)) "Reset").run Try.prog w = .ok (127, .pointer (some ⟨k, 0, none⟩)) w := by kernel_rfl
theorem m_resetT (p : Nat) (w : World) : (method 373 134 (.pointer (some ⟨p, 2, none⟩)) "Reset").run Try.prog w = .ok (140, .pointer (some ⟨p, 2, none⟩)) w := by kernel_rfl

set_option maxRecDepth 20000 in
set_option maxHeartbeats 8000000 in
theorem new17 (kp : Bool) (ind : Nat) (w : World) : Calls Try.prog 17 #[.int .u64 ind, .bool kp] w (MadeP kp (readyF kp ind) w) := by
  cases kp
  · have mm := m_resetF
    go_enter Try.func17, Try.ntmps17
    go_wp2_with (first | (go_at_call 48; (generalize hW : World.alloc (World.alloc (World.alloc (World.alloc w _) _) _) _ = W0; have L4 := Lib.hid (laid4 w W0 ind false hW); clear hW; refine (new48 _ _ _ ind 2 false W0 L4.out.c0 L4.out.c1 L4.out.ci L4.out.ck).mono ?_; rintro e w1 ⟨rfl, hN⟩; have N1 := Lib.hid hN; clear hN)) | (go_at_call 51; refine (reset51 false _ _ _ _ _ N1.out.pr).mono ?_; rintro e w2 ⟨rfl, t1, t2⟩; have N2 := Lib.hid (N1.out.turn t1 t2); have c0 : w2.cell? ⟨W0.heap.size + 3, 0, none⟩ = some (.iface 79 (.pointer (some ⟨W0.heap.size + 1, 0, none⟩))) := (by rw [Lib.cell_of_heap t1]; rfl); clear t1 t2 N1) | (go_at_call 127; refine (wreset127 w.heap.size _ _ _ N2.out.wr).mono ?_; rintro e w3 ⟨rfl, t1, t2⟩; have N3 := Lib.hid (N2.out.ready (w := w) L4.out.buf (by rw [L4.out.size]; omega) L4.out.below t1 t2); clear t1 t2 N2) | (go_at_call 49; go_in) | (go_at_call 50; go_in))
    go_ret2
    exact ⟨_, _, _, _, rfl, N3.out.1, N3.out.2⟩
  · have mm := m_resetT
    go_enter Try.func17, Try.ntmps17
    go_wp2_with (first | (go_at_call 48; (generalize hW : World.alloc (World.alloc (World.alloc (World.alloc w _) _) _) _ = W0; have L4 := Lib.hid (laid4 w W0 ind true hW); clear hW; refine (new48 _ _ _ ind 2 true W0 L4.out.c0 L4.out.c1 L4.out.ci L4.out.ck).mono ?_; rintro e w1 ⟨rfl, hN⟩; have N1 := Lib.hid hN; clear hN)) | (go_at_call 51; refine (reset51 true _ _ _ _ _ N1.out.pr).mono ?_; rintro e w2 ⟨rfl, t1, t2⟩; have N2 := Lib.hid (N1.out.turn t1 t2); have c0 : w2.cell? ⟨W0.heap.size + 3, 0, none⟩ = some (.iface 134 (.pointer (some ⟨W0.heap.size + 3, 2, none⟩))) := (by rw [Lib.cell_of_heap t1]; rfl); clear t1 t2 N1) | (go_at_call 140; refine (creset140 w.heap.size _ _ _ _ _ _ N2.out.pr N2.out.wr N2.out.nkp).mono ?_; rintro e w3 ⟨rfl, w4, t1, t2, t3, t4, t5⟩; have N3 := Lib.hid ((N2.out.turn t1 t2).ready (w := w) L4.out.buf (by rw [L4.out.size]; omega) L4.out.below t4 t5); clear t1 t2 t3 t4 t5 N2) | (go_at_call 49; go_in) | (go_at_call 50; go_in))
    go_ret2
    exact ⟨_, _, _, _, rfl, N3.out.1, N3.out.2⟩
end Go.Proofs.Ytonhphjejlidiaa
