/-
  The walks of Variable.Resolve. Conditions: those in each theorem.
-/
import Derived.Test.YthihppocokkoiaaDoorLwO
namespace Go.Proofs.YthihppocokkoiaaDoor
set_option linter.unusedVariables false
open Go.Shelf Go.RowKit Go.Lib Go.Sort

/-- a Variable's nine fields -/
def varL (b0 b1 b2 b3 : Bool) (k : Nat) (s : ByteArray) (la : Option Addr) (ln lc : Nat) (mr : Option Nat) (xa : Option Addr) (xn xc : Nat) : Array Value := #[.bool b0, .bool b1, .bool b2, .bool b3, .int .u8 k, .string s, .slice la ln lc, .map mr, .slice xa xn xc]

set_option maxRecDepth 20000 in
set_option maxHeartbeats 8000000 in
theorem res20_id (b0 b1 b2 b3 : Bool) (k : Nat) (s : ByteArray) (la : Option Addr) (ln lc : Nat) (mr : Option Nat) (xa : Option Addr) (xn xc : Nat) (iv : Value) (w : World) (hk : k ≤ 255) (hk2 : ¬ k = 2) :
    Calls Tryd.prog 20 #[.agg (varL b0 b1 b2 b3 k s la ln lc mr xa xn xc), iv] w fun e w' => e = .returned (.tuple #[.string ⟨#[]⟩, .agg (varL b0 b1 b2 b3 k s la ln lc mr xa xn xc)]) ∧ Below w.heap.size w w' := by
  have mixed : Tryd.prog.follows .mixedOrders = true := by kernel_rfl
  have hki : (k : Int) ≤ 255 := by omega
  have hk2i : ¬ (k : Int) = 2 := by omega
  unfold varL
  go_enter Tryd.func20, Tryd.ntmps20
  go_wp2
  refine wp_loop_rounds 2 ?_
  rw [rounds_succ]
  go_wp2
  go_region
  all_goals (go_wp2; exact bodyPost_ret (v := .tuple #[.string ⟨#[]⟩, .agg #[.bool b0, .bool b1, .bool b2, .bool b3, .int .u8 k, .string s, .slice la ln lc, .map mr, .slice xa xn xc]]) (by simp [results, Tryd.results20, go_sem]) rfl ⟨rfl, (((Below.refl _ _).alloc (Nat.le_refl _) _).alloc (by simp) _).drew⟩)

theorem put9_other {W : World} {b i : Nat} (v0 v1 v2 v3 v4 v5 v6 v7 v8 : Value) (h : i ≠ b) : (((((((((W.setCell ⟨b, 0, none⟩ (v0)).setCell ⟨b, 1, none⟩ (v1)).setCell ⟨b, 2, none⟩ (v2)).setCell ⟨b, 3, none⟩ (v3)).setCell ⟨b, 4, none⟩ (v4)).setCell ⟨b, 5, none⟩ (v5)).setCell ⟨b, 6, none⟩ (v6)).setCell ⟨b, 7, none⟩ (v7)).setCell ⟨b, 8, none⟩ (v8)).heap[i]? = W.heap[i]? := by
  rw [Below.heap_setCell _ _ _ _ h, Below.heap_setCell _ _ _ _ h, Below.heap_setCell _ _ _ _ h, Below.heap_setCell _ _ _ _ h, Below.heap_setCell _ _ _ _ h, Below.heap_setCell _ _ _ _ h, Below.heap_setCell _ _ _ _ h, Below.heap_setCell _ _ _ _ h, Below.heap_setCell _ _ _ _ h]

set_option maxRecDepth 20000 in
set_option maxHeartbeats 8000000 in
theorem res20_ref (b2 b0 bb : Bool) (kk : Int) (q ss : ByteArray) (sv : Value) (w : World) (hkk : kk = 0 ∨ kk = 1)
    (GET : Hid (∀ W : World, Below w.heap.size w W → Calls Tryd.prog 141 #[.agg #[.bool false, sv], .string q] W fun e w' => e = .returned (.agg #[.bool bb, .bool false, .bool bb, .bool false, .int .u8 kk, .string ss, .slice none 0 0, .map none, .slice none 0 0]) ∧ Below W.heap.size W w')) :
    Calls Tryd.prog 20 #[.agg #[.bool b0, .bool false, .bool b2, .bool false, .int .u8 2, .string q, .slice none 0 0, .map none, .slice none 0 0], .iface 97 (.agg #[.bool false, sv])] w fun e w' => e = .returned (.tuple #[.string q, .agg #[.bool bb, .bool false, .bool bb, .bool false, .int .u8 kk, .string ss, .slice none 0 0, .map none, .slice none 0 0]]) ∧ Below w.heap.size w w' := by
  have mixed : Tryd.prog.follows .mixedOrders = true := by kernel_rfl
  have method_get : ∀ (sv : Value) (w : World), (method 342 97 (.agg #[.bool false, sv]) "Get").run Tryd.prog w = .ok (141, .agg #[.bool false, sv]) w := fun sv w => by kernel_rfl
  have hk0 : (kk == 2) = false := by rcases hkk with rfl | rfl <;> rfl
  have hk1 : (kk != 2) = true := by rcases hkk with rfl | rfl <;> rfl
  clear hkk
  go_enter Tryd.func20, Tryd.ntmps20
  go_wp2
  refine wp_loop_rounds 3 ?_
  rw [rounds_succ]
  go_wp2_with (go_at_call 141; refine (GET.out _ ?_).mono ?_)
  · exact ((Below.refl _ _).alloc (Nat.le_refl _) _).alloc (by simp) _
  rintro e w1 ⟨rfl, hb1⟩
  have H0 : Hid (w1.heap[w.heap.size]? = some (.cells #[.bool b0, .bool false, .bool b2, .bool false, .int .u8 2, .string q, .slice none 0 0, .map none, .slice none 0 0] 34)) := Lib.hid ((hb1.block w.heap.size (by simp; omega)).trans ((Below.heap_alloc _ _ _ (by simp)).trans (heap_alloc_new w _)))
  have H1 : Hid (w1.heap[w.heap.size + 1]? = some (.cells #[.bool false, .bool false, .bool false, .bool false, .int .u8 0, .string ⟨#[]⟩, .slice none 0 0, .map none, .slice none 0 0] 34)) := Lib.hid ((hb1.block (w.heap.size + 1) (by simp)).trans (by have h := heap_alloc_new (w.alloc (.cells #[.bool b0, .bool false, .bool b2, .bool false, .int .u8 2, .string q, .slice none 0 0, .map none, .slice none 0 0] 34)) (.cells #[.bool false, .bool false, .bool false, .bool false, .int .u8 0, .string ⟨#[]⟩, .slice none 0 0, .map none, .slice none 0 0] 34); rw [show (w.alloc (.cells #[.bool b0, .bool false, .bool b2, .bool false, .int .u8 2, .string q, .slice none 0 0, .map none, .slice none 0 0] 34)).heap.size = w.heap.size + 1 by simp] at h; exact h))
  have B1 : Hid (Below w.heap.size w w1) := Lib.hid ((((Below.refl _ _).alloc (Nat.le_refl _) _).alloc (by simp) _).trans (hb1.mono (by simp; omega)))
  clear hb1 GET
  have r0 : w1.cell? ⟨w.heap.size, 0, none⟩ = some (.bool b0) := cell_heap H0.out 0 _ rfl
  have f0 : w1.frozen? ⟨w.heap.size, 0, none⟩ = false := frozen_heap H0.out 0
  have r1 : w1.cell? ⟨w.heap.size, 1, none⟩ = some (.bool false) := cell_heap H0.out 1 _ rfl
  have f1 : w1.frozen? ⟨w.heap.size, 1, none⟩ = false := frozen_heap H0.out 1
  have r2 : w1.cell? ⟨w.heap.size, 2, none⟩ = some (.bool b2) := cell_heap H0.out 2 _ rfl
  have f2 : w1.frozen? ⟨w.heap.size, 2, none⟩ = false := frozen_heap H0.out 2
  have r3 : w1.cell? ⟨w.heap.size, 3, none⟩ = some (.bool false) := cell_heap H0.out 3 _ rfl
  have f3 : w1.frozen? ⟨w.heap.size, 3, none⟩ = false := frozen_heap H0.out 3
  have r4 : w1.cell? ⟨w.heap.size, 4, none⟩ = some (.int .u8 2) := cell_heap H0.out 4 _ rfl
  have f4 : w1.frozen? ⟨w.heap.size, 4, none⟩ = false := frozen_heap H0.out 4
  have r5 : w1.cell? ⟨w.heap.size, 5, none⟩ = some (.string q) := cell_heap H0.out 5 _ rfl
  have f5 : w1.frozen? ⟨w.heap.size, 5, none⟩ = false := frozen_heap H0.out 5
  have r6 : w1.cell? ⟨w.heap.size, 6, none⟩ = some (.slice none 0 0) := cell_heap H0.out 6 _ rfl
  have f6 : w1.frozen? ⟨w.heap.size, 6, none⟩ = false := frozen_heap H0.out 6
  have r7 : w1.cell? ⟨w.heap.size, 7, none⟩ = some (.map none) := cell_heap H0.out 7 _ rfl
  have f7 : w1.frozen? ⟨w.heap.size, 7, none⟩ = false := frozen_heap H0.out 7
  have r8 : w1.cell? ⟨w.heap.size, 8, none⟩ = some (.slice none 0 0) := cell_heap H0.out 8 _ rfl
  have f8 : w1.frozen? ⟨w.heap.size, 8, none⟩ = false := frozen_heap H0.out 8
  go_wp2
  clear r0 f0 r1 f1 r2 f2 r3 f3 r4 f4 r5 f5 r6 f6 r7 f7 r8 f8
  have hF := put9 (.bool b0) (.bool false) (.bool b2) (.bool false) (.int .u8 2) (.string q) (.slice none 0 0) (.map none) (.slice none 0 0) (.bool bb) (.bool false) (.bool bb) (.bool false) (.int .u8 kk) (.string ss) (.slice none 0 0) (.map none) (.slice none 0 0) H0.out
  have hO := put9_other (W := w1) (b := w.heap.size) (i := w.heap.size + 1) (.bool bb) (.bool false) (.bool bb) (.bool false) (.int .u8 kk) (.string ss) (.slice none 0 0) (.map none) (.slice none 0 0) (by omega)
  rw [H1.out] at hO
  have hBB : Below w.heap.size w (((((((((w1.setCell ⟨w.heap.size, 0, none⟩ (.bool bb)).setCell ⟨w.heap.size, 1, none⟩ (.bool false)).setCell ⟨w.heap.size, 2, none⟩ (.bool bb)).setCell ⟨w.heap.size, 3, none⟩ (.bool false)).setCell ⟨w.heap.size, 4, none⟩ (.int .u8 kk)).setCell ⟨w.heap.size, 5, none⟩ (.string ss)).setCell ⟨w.heap.size, 6, none⟩ (.slice none 0 0)).setCell ⟨w.heap.size, 7, none⟩ (.map none)).setCell ⟨w.heap.size, 8, none⟩ (.slice none 0 0)) := (((((((((B1.out.setCell (Nat.le_refl _) _).setCell (Nat.le_refl _) _).setCell (Nat.le_refl _) _).setCell (Nat.le_refl _) _).setCell (Nat.le_refl _) _).setCell (Nat.le_refl _) _).setCell (Nat.le_refl _) _).setCell (Nat.le_refl _) _).setCell (Nat.le_refl _) _)
  generalize (((((((((w1.setCell ⟨w.heap.size, 0, none⟩ (.bool bb)).setCell ⟨w.heap.size, 1, none⟩ (.bool false)).setCell ⟨w.heap.size, 2, none⟩ (.bool bb)).setCell ⟨w.heap.size, 3, none⟩ (.bool false)).setCell ⟨w.heap.size, 4, none⟩ (.int .u8 kk)).setCell ⟨w.heap.size, 5, none⟩ (.string ss)).setCell ⟨w.heap.size, 6, none⟩ (.slice none 0 0)).setCell ⟨w.heap.size, 7, none⟩ (.map none)).setCell ⟨w.heap.size, 8, none⟩ (.slice none 0 0)) = W2 at hF hO hBB ⊢
  have HB := Lib.hid hBB
  have HF := Lib.hid hF
  have HO := Lib.hid hO
  clear hF hO hBB
  have r0 : W2.cell? ⟨w.heap.size, 0, none⟩ = some (.bool bb) := cell_heap HF.out 0 _ rfl
  have r1 : W2.cell? ⟨w.heap.size, 1, none⟩ = some (.bool false) := cell_heap HF.out 1 _ rfl
  have r2 : W2.cell? ⟨w.heap.size, 2, none⟩ = some (.bool bb) := cell_heap HF.out 2 _ rfl
  have r3 : W2.cell? ⟨w.heap.size, 3, none⟩ = some (.bool false) := cell_heap HF.out 3 _ rfl
  have r4 : W2.cell? ⟨w.heap.size, 4, none⟩ = some (.int .u8 kk) := cell_heap HF.out 4 _ rfl
  have r5 : W2.cell? ⟨w.heap.size, 5, none⟩ = some (.string ss) := cell_heap HF.out 5 _ rfl
  have r6 : W2.cell? ⟨w.heap.size, 6, none⟩ = some (.slice none 0 0) := cell_heap HF.out 6 _ rfl
  have r7 : W2.cell? ⟨w.heap.size, 7, none⟩ = some (.map none) := cell_heap HF.out 7 _ rfl
  have r8 : W2.cell? ⟨w.heap.size, 8, none⟩ = some (.slice none 0 0) := cell_heap HF.out 8 _ rfl
  have z0 : W2.cell? ⟨w.heap.size + 1, 0, none⟩ = some (.bool false) := cell_heap HO.out 0 _ rfl
  have f0 : W2.frozen? ⟨w.heap.size + 1, 0, none⟩ = false := frozen_heap HO.out 0
  have z1 : W2.cell? ⟨w.heap.size + 1, 1, none⟩ = some (.bool false) := cell_heap HO.out 1 _ rfl
  have f1 : W2.frozen? ⟨w.heap.size + 1, 1, none⟩ = false := frozen_heap HO.out 1
  have z2 : W2.cell? ⟨w.heap.size + 1, 2, none⟩ = some (.bool false) := cell_heap HO.out 2 _ rfl
  have f2 : W2.frozen? ⟨w.heap.size + 1, 2, none⟩ = false := frozen_heap HO.out 2
  have z3 : W2.cell? ⟨w.heap.size + 1, 3, none⟩ = some (.bool false) := cell_heap HO.out 3 _ rfl
  have f3 : W2.frozen? ⟨w.heap.size + 1, 3, none⟩ = false := frozen_heap HO.out 3
  have z4 : W2.cell? ⟨w.heap.size + 1, 4, none⟩ = some (.int .u8 0) := cell_heap HO.out 4 _ rfl
  have f4 : W2.frozen? ⟨w.heap.size + 1, 4, none⟩ = false := frozen_heap HO.out 4
  have z5 : W2.cell? ⟨w.heap.size + 1, 5, none⟩ = some (.string ⟨#[]⟩) := cell_heap HO.out 5 _ rfl
  have f5 : W2.frozen? ⟨w.heap.size + 1, 5, none⟩ = false := frozen_heap HO.out 5
  have z6 : W2.cell? ⟨w.heap.size + 1, 6, none⟩ = some (.slice none 0 0) := cell_heap HO.out 6 _ rfl
  have f6 : W2.frozen? ⟨w.heap.size + 1, 6, none⟩ = false := frozen_heap HO.out 6
  have z7 : W2.cell? ⟨w.heap.size + 1, 7, none⟩ = some (.map none) := cell_heap HO.out 7 _ rfl
  have f7 : W2.frozen? ⟨w.heap.size + 1, 7, none⟩ = false := frozen_heap HO.out 7
  have z8 : W2.cell? ⟨w.heap.size + 1, 8, none⟩ = some (.slice none 0 0) := cell_heap HO.out 8 _ rfl
  have f8 : W2.frozen? ⟨w.heap.size + 1, 8, none⟩ = false := frozen_heap HO.out 8
  rw [rounds_succ]
  go_wp2
  go_region
  have hG := put9 (.bool false) (.bool false) (.bool false) (.bool false) (.int .u8 0) (.string ⟨#[]⟩) (.slice none 0 0) (.map none) (.slice none 0 0) (.bool bb) (.bool false) (.bool bb) (.bool false) (.int .u8 kk) (.string ss) (.slice none 0 0) (.map none) (.slice none 0 0) HO.out
  go_wp2
  refine bodyPost_ret (v := .tuple #[.string q, .agg #[.bool bb, .bool false, .bool bb, .bool false, .int .u8 kk, .string ss, .slice none 0 0, .map none, .slice none 0 0]]) ?_ rfl ⟨rfl, (((((((((HB.out.setCell (Nat.le_succ _) _).setCell (Nat.le_succ _) _).setCell (Nat.le_succ _) _).setCell (Nat.le_succ _) _).setCell (Nat.le_succ _) _).setCell (Nat.le_succ _) _).setCell (Nat.le_succ _) _).setCell (Nat.le_succ _) _).setCell (Nat.le_succ _) _).drew⟩
  simp [results, Tryd.results20, go_sem, cell_heap hG 0 _ rfl, cell_heap hG 1 _ rfl, cell_heap hG 2 _ rfl, cell_heap hG 3 _ rfl, cell_heap hG 4 _ rfl, cell_heap hG 5 _ rfl, cell_heap hG 6 _ rfl, cell_heap hG 7 _ rfl, cell_heap hG 8 _ rfl]

/-- Get's answer, resolved once more -/
theorem res20_ans (o : Option (List UInt8)) (n : Nat) (iv : Value) (w : World) : Calls Tryd.prog 20 #[answer o n, iv] w fun e w' => e = .returned (.tuple #[.string ⟨#[]⟩, answer o n]) ∧ Below w.heap.size w w' := by
  cases o with
  | none => exact res20_id false false false false 0 ⟨#[]⟩ none 0 0 none none 0 0 iv w (by omega) (by omega)
  | some x => exact res20_id true false true false 1 _ none 0 0 none none 0 0 iv w (by omega) (by omega)
theorem answer_form2 (o : Option (List UInt8)) (n : Nat) : ∃ (b : Bool) (k : Int) (s : ByteArray), (k = 0 ∨ k = 1) ∧ answer o n = .agg #[.bool b, .bool false, .bool b, .bool false, .int .u8 k, .string s, .slice none 0 0, .map none, .slice none 0 0] := by
  cases o with
  | none => exact ⟨false, 0, _, .inl rfl, rfl⟩
  | some x => exact ⟨true, 1, _, .inr rfl, rfl⟩
end Go.Proofs.YthihppocokkoiaaDoor
