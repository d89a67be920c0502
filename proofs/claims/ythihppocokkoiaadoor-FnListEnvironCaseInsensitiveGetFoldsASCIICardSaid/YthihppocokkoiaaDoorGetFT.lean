/-
  The walk of the environment's Get, case-insensitive (printed by genT6.py). Conditions: those in each theorem.
-/
import Derived.Test.YthihppocokkoiaaDoorGetST
import Derived.Test.YthihppocokkoiaaDoorGetA
namespace Go.Proofs.YthihppocokkoiaaDoor
set_option linter.unusedVariables false
open Go.Shelf Go.RowKit Go.Lib Go.Sort

set_option maxHeartbeats 2000000 in
theorem get_none_wT (sv : Value) (q : ByteArray) (w : World) (sq : q.size ≤ 1073741824)
    (SR : Hid (∀ W, Below w.heap.size w W → W.heap.size = w.heap.size + 4 → W.cell? ⟨w.heap.size, 0, none⟩ = some (.bool true) → W.cell? ⟨w.heap.size, 1, none⟩ = some sv → W.cell? ⟨w.heap.size + 1 + 1, 0, none⟩ = some (.int .i64 q.size) → W.cell? ⟨w.heap.size + 1 + 1 + 1, 0, none⟩ = some (.int .i64 ((q.size : Int) + 1)) →
      Calls Tryd.prog 142 #[sv, .string q, .func (.func 143) #[] #[.pointer (some ⟨w.heap.size + 1 + 1 + 1, 0, none⟩), .pointer (some ⟨w.heap.size, 0, none⟩), .pointer (some ⟨w.heap.size + 1 + 1, 0, none⟩)]] W fun e w' => (∃ i : Nat, e = .returned (.tuple #[.int .i64 i, .bool false])) ∧ Below W.heap.size W w')) :
    Calls Tryd.prog 141 #[.agg #[.bool true, sv], .string q] w fun e w' => e = .returned zeroVar ∧ Below w.heap.size w w' := by
  go_enter Tryd.func141, Tryd.ntmps141
  go_wp2_with fail
  obtain ⟨W4, hW4⟩ : ∃ W, W = ((((w.alloc (.cells #[.bool true, sv] 97)).alloc (.cells #[.bool false, .bool false, .bool false, .bool false, .int .u8 0, .string ⟨#[]⟩, .slice none 0 0, .map none, .slice none 0 0] 34)).alloc (.cells #[.int .i64 q.size] 3)).alloc (.cells #[.int .i64 ((q.size : Int) + 1)] 3)) := ⟨_, rfl⟩
  rw [← hW4]
  obtain ⟨k0, k1, k2, k3⟩ := heap_at w (.cells #[.bool true, sv] 97) (.cells #[.bool false, .bool false, .bool false, .bool false, .int .u8 0, .string ⟨#[]⟩, .slice none 0 0, .map none, .slice none 0 0] 34) (.cells #[.int .i64 q.size] 3) (.cells #[.int .i64 ((q.size : Int) + 1)] 3)
  rw [← hW4] at k0 k1 k2 k3
  have h4 : W4.heap.size = w.heap.size + 4 := by rw [hW4]; simp
  have b4 : Below w.heap.size w W4 := by
    rw [hW4]; exact ((((Below.refl _ _).alloc (Nat.le_refl _) _).alloc (by simp) _).alloc (by simp; omega) _).alloc (by simp; omega) _
  have r0 : W4.cell? ⟨w.heap.size + 1, 0, none⟩ = some (.bool false) := cell_heap k1 0 _ rfl
  have r1 : W4.cell? ⟨w.heap.size + 1, 1, none⟩ = some (.bool false) := cell_heap k1 1 _ rfl
  have r2 : W4.cell? ⟨w.heap.size + 1, 2, none⟩ = some (.bool false) := cell_heap k1 2 _ rfl
  have r3 : W4.cell? ⟨w.heap.size + 1, 3, none⟩ = some (.bool false) := cell_heap k1 3 _ rfl
  have r4 : W4.cell? ⟨w.heap.size + 1, 4, none⟩ = some (.int .u8 0) := cell_heap k1 4 _ rfl
  have r5 : W4.cell? ⟨w.heap.size + 1, 5, none⟩ = some (.string ⟨#[]⟩) := cell_heap k1 5 _ rfl
  have r6 : W4.cell? ⟨w.heap.size + 1, 6, none⟩ = some (.slice none 0 0) := cell_heap k1 6 _ rfl
  have r7 : W4.cell? ⟨w.heap.size + 1, 7, none⟩ = some (.map none) := cell_heap k1 7 _ rfl
  have r8 : W4.cell? ⟨w.heap.size + 1, 8, none⟩ = some (.slice none 0 0) := cell_heap k1 8 _ rfl
  have f0 : W4.frozen? ⟨w.heap.size + 1, 0, none⟩ = false := frozen_heap k1 0
  have f1 : W4.frozen? ⟨w.heap.size + 1, 1, none⟩ = false := frozen_heap k1 1
  have f2 : W4.frozen? ⟨w.heap.size + 1, 2, none⟩ = false := frozen_heap k1 2
  have f3 : W4.frozen? ⟨w.heap.size + 1, 3, none⟩ = false := frozen_heap k1 3
  have f4 : W4.frozen? ⟨w.heap.size + 1, 4, none⟩ = false := frozen_heap k1 4
  have f5 : W4.frozen? ⟨w.heap.size + 1, 5, none⟩ = false := frozen_heap k1 5
  have f6 : W4.frozen? ⟨w.heap.size + 1, 6, none⟩ = false := frozen_heap k1 6
  have f7 : W4.frozen? ⟨w.heap.size + 1, 7, none⟩ = false := frozen_heap k1 7
  have f8 : W4.frozen? ⟨w.heap.size + 1, 8, none⟩ = false := frozen_heap k1 8
  refine (SR.out W4 b4 h4 (cell_heap k0 0 _ rfl) (cell_heap k0 1 _ rfl) (cell_heap k2 0 _ rfl) (cell_heap k3 0 _ rfl)).mono ?_
  rintro e w5 ⟨⟨i, rfl⟩, hb5⟩
  have bl := hb5.block (w.heap.size + 1) (by omega)
  rw [← World.cell?_of_block (w := W4) (w' := w5) (a := ⟨w.heap.size + 1, 0, none⟩) bl] at r0
  rw [← World.cell?_of_block (w := W4) (w' := w5) (a := ⟨w.heap.size + 1, 1, none⟩) bl] at r1
  rw [← World.cell?_of_block (w := W4) (w' := w5) (a := ⟨w.heap.size + 1, 2, none⟩) bl] at r2
  rw [← World.cell?_of_block (w := W4) (w' := w5) (a := ⟨w.heap.size + 1, 3, none⟩) bl] at r3
  rw [← World.cell?_of_block (w := W4) (w' := w5) (a := ⟨w.heap.size + 1, 4, none⟩) bl] at r4
  rw [← World.cell?_of_block (w := W4) (w' := w5) (a := ⟨w.heap.size + 1, 5, none⟩) bl] at r5
  rw [← World.cell?_of_block (w := W4) (w' := w5) (a := ⟨w.heap.size + 1, 6, none⟩) bl] at r6
  rw [← World.cell?_of_block (w := W4) (w' := w5) (a := ⟨w.heap.size + 1, 7, none⟩) bl] at r7
  rw [← World.cell?_of_block (w := W4) (w' := w5) (a := ⟨w.heap.size + 1, 8, none⟩) bl] at r8
  rw [← World.frozen?_of_block (w := W4) (w' := w5) (a := ⟨w.heap.size + 1, 0, none⟩) bl] at f0
  rw [← World.frozen?_of_block (w := W4) (w' := w5) (a := ⟨w.heap.size + 1, 1, none⟩) bl] at f1
  rw [← World.frozen?_of_block (w := W4) (w' := w5) (a := ⟨w.heap.size + 1, 2, none⟩) bl] at f2
  rw [← World.frozen?_of_block (w := W4) (w' := w5) (a := ⟨w.heap.size + 1, 3, none⟩) bl] at f3
  rw [← World.frozen?_of_block (w := W4) (w' := w5) (a := ⟨w.heap.size + 1, 4, none⟩) bl] at f4
  rw [← World.frozen?_of_block (w := W4) (w' := w5) (a := ⟨w.heap.size + 1, 5, none⟩) bl] at f5
  rw [← World.frozen?_of_block (w := W4) (w' := w5) (a := ⟨w.heap.size + 1, 6, none⟩) bl] at f6
  rw [← World.frozen?_of_block (w := W4) (w' := w5) (a := ⟨w.heap.size + 1, 7, none⟩) bl] at f7
  rw [← World.frozen?_of_block (w := W4) (w' := w5) (a := ⟨w.heap.size + 1, 8, none⟩) bl] at f8
  have H5 := Lib.hid (bl.trans k1)
  have B5 := Lib.hid (b4.trans (hb5.mono b4.size))
  have z5 : w.heap.size + 1 < w5.heap.size := by have := hb5.size; omega
  clear hW4 h4 b4 hb5 bl SR k0 k1 k2 k3
  go_wp2
  have hF := put9 _ _ _ _ _ _ _ _ _ (.bool false) (.bool false) (.bool false) (.bool false) (.int .u8 0) (.string ⟨#[]⟩) (.slice none 0 0) (.map none) (.slice none 0 0) H5.out
  refine bodyPost_ret (v := zeroVar) ?_ rfl ⟨rfl, ?_⟩
  · simp [results, Tryd.results141, go_sem, zeroVar, cell_heap hF 0 _ rfl, cell_heap hF 1 _ rfl, cell_heap hF 2 _ rfl, cell_heap hF 3 _ rfl, cell_heap hF 4 _ rfl, cell_heap hF 5 _ rfl, cell_heap hF 6 _ rfl, cell_heap hF 7 _ rfl, cell_heap hF 8 _ rfl]
  · exact ((((((((B5.out.setCell (by simp) _).setCell (by simp) _).setCell (by simp) _).setCell (by simp) _).setCell (by simp) _).setCell (by simp) _).setCell (by simp) _).setCell (by simp) _).setCell (by simp) _

set_option maxHeartbeats 2000000 in
theorem get_found_wT (g n cap : Nat) (sv : Value) (hsv : sv = .slice (some ⟨g, 0, none⟩) n cap) (q xb : ByteArray) (w : World) (sq : q.size ≤ 1073741824) (i : Nat) (hin : i < n) (hg : g < w.heap.size) (hx : w.cell? ⟨g, i, none⟩ = some (.string xb)) (hxq : q.size + 1 ≤ xb.size) (hcap : n ≤ cap) (hm : cap ≤ maxLen)
    (SR : Hid (∀ W, Below w.heap.size w W → W.heap.size = w.heap.size + 4 → W.cell? ⟨w.heap.size, 0, none⟩ = some (.bool true) → W.cell? ⟨w.heap.size, 1, none⟩ = some sv → W.cell? ⟨w.heap.size + 1 + 1, 0, none⟩ = some (.int .i64 q.size) → W.cell? ⟨w.heap.size + 1 + 1 + 1, 0, none⟩ = some (.int .i64 ((q.size : Int) + 1)) →
      Calls Tryd.prog 142 #[sv, .string q, .func (.func 143) #[] #[.pointer (some ⟨w.heap.size + 1 + 1 + 1, 0, none⟩), .pointer (some ⟨w.heap.size, 0, none⟩), .pointer (some ⟨w.heap.size + 1 + 1, 0, none⟩)]] W fun e w' => e = .returned (.tuple #[.int .i64 i, .bool true]) ∧ Below W.heap.size W w')) :
    Calls Tryd.prog 141 #[.agg #[.bool true, sv], .string q] w fun e w' => e = .returned (strVar (xb.extract (q.size + 1) xb.size)) ∧ Below w.heap.size w w' := by
  subst hsv
  have CX := Lib.hid hx
  clear hx
  go_enter Tryd.func141, Tryd.ntmps141
  go_wp2_with fail
  obtain ⟨W4, hW4⟩ : ∃ W, W = ((((w.alloc (.cells #[.bool true, .slice (some ⟨g, 0, none⟩) n cap] 97)).alloc (.cells #[.bool false, .bool false, .bool false, .bool false, .int .u8 0, .string ⟨#[]⟩, .slice none 0 0, .map none, .slice none 0 0] 34)).alloc (.cells #[.int .i64 q.size] 3)).alloc (.cells #[.int .i64 ((q.size : Int) + 1)] 3)) := ⟨_, rfl⟩
  rw [← hW4]
  obtain ⟨k0, k1, k2, k3⟩ := heap_at w (.cells #[.bool true, .slice (some ⟨g, 0, none⟩) n cap] 97) (.cells #[.bool false, .bool false, .bool false, .bool false, .int .u8 0, .string ⟨#[]⟩, .slice none 0 0, .map none, .slice none 0 0] 34) (.cells #[.int .i64 q.size] 3) (.cells #[.int .i64 ((q.size : Int) + 1)] 3)
  rw [← hW4] at k0 k1 k2 k3
  have h4 : W4.heap.size = w.heap.size + 4 := by rw [hW4]; simp
  have b4 : Below w.heap.size w W4 := by
    rw [hW4]; exact ((((Below.refl _ _).alloc (Nat.le_refl _) _).alloc (by simp) _).alloc (by simp; omega) _).alloc (by simp; omega) _
  have r0 : W4.cell? ⟨w.heap.size + 1, 0, none⟩ = some (.bool false) := cell_heap k1 0 _ rfl
  have r1 : W4.cell? ⟨w.heap.size + 1, 1, none⟩ = some (.bool false) := cell_heap k1 1 _ rfl
  have r2 : W4.cell? ⟨w.heap.size + 1, 2, none⟩ = some (.bool false) := cell_heap k1 2 _ rfl
  have r3 : W4.cell? ⟨w.heap.size + 1, 3, none⟩ = some (.bool false) := cell_heap k1 3 _ rfl
  have r4 : W4.cell? ⟨w.heap.size + 1, 4, none⟩ = some (.int .u8 0) := cell_heap k1 4 _ rfl
  have r5 : W4.cell? ⟨w.heap.size + 1, 5, none⟩ = some (.string ⟨#[]⟩) := cell_heap k1 5 _ rfl
  have r6 : W4.cell? ⟨w.heap.size + 1, 6, none⟩ = some (.slice none 0 0) := cell_heap k1 6 _ rfl
  have r7 : W4.cell? ⟨w.heap.size + 1, 7, none⟩ = some (.map none) := cell_heap k1 7 _ rfl
  have r8 : W4.cell? ⟨w.heap.size + 1, 8, none⟩ = some (.slice none 0 0) := cell_heap k1 8 _ rfl
  have f0 : W4.frozen? ⟨w.heap.size + 1, 0, none⟩ = false := frozen_heap k1 0
  have f1 : W4.frozen? ⟨w.heap.size + 1, 1, none⟩ = false := frozen_heap k1 1
  have f2 : W4.frozen? ⟨w.heap.size + 1, 2, none⟩ = false := frozen_heap k1 2
  have f3 : W4.frozen? ⟨w.heap.size + 1, 3, none⟩ = false := frozen_heap k1 3
  have f4 : W4.frozen? ⟨w.heap.size + 1, 4, none⟩ = false := frozen_heap k1 4
  have f5 : W4.frozen? ⟨w.heap.size + 1, 5, none⟩ = false := frozen_heap k1 5
  have f6 : W4.frozen? ⟨w.heap.size + 1, 6, none⟩ = false := frozen_heap k1 6
  have f7 : W4.frozen? ⟨w.heap.size + 1, 7, none⟩ = false := frozen_heap k1 7
  have f8 : W4.frozen? ⟨w.heap.size + 1, 8, none⟩ = false := frozen_heap k1 8
  refine (SR.out W4 b4 h4 (cell_heap k0 0 _ rfl) (cell_heap k0 1 _ rfl) (cell_heap k2 0 _ rfl) (cell_heap k3 0 _ rfl)).mono ?_
  rintro e w5 ⟨rfl, hb5⟩
  have bl := hb5.block (w.heap.size + 1) (by omega)
  rw [← World.cell?_of_block (w := W4) (w' := w5) (a := ⟨w.heap.size + 1, 0, none⟩) bl] at r0
  rw [← World.cell?_of_block (w := W4) (w' := w5) (a := ⟨w.heap.size + 1, 1, none⟩) bl] at r1
  rw [← World.cell?_of_block (w := W4) (w' := w5) (a := ⟨w.heap.size + 1, 2, none⟩) bl] at r2
  rw [← World.cell?_of_block (w := W4) (w' := w5) (a := ⟨w.heap.size + 1, 3, none⟩) bl] at r3
  rw [← World.cell?_of_block (w := W4) (w' := w5) (a := ⟨w.heap.size + 1, 4, none⟩) bl] at r4
  rw [← World.cell?_of_block (w := W4) (w' := w5) (a := ⟨w.heap.size + 1, 5, none⟩) bl] at r5
  rw [← World.cell?_of_block (w := W4) (w' := w5) (a := ⟨w.heap.size + 1, 6, none⟩) bl] at r6
  rw [← World.cell?_of_block (w := W4) (w' := w5) (a := ⟨w.heap.size + 1, 7, none⟩) bl] at r7
  rw [← World.cell?_of_block (w := W4) (w' := w5) (a := ⟨w.heap.size + 1, 8, none⟩) bl] at r8
  rw [← World.frozen?_of_block (w := W4) (w' := w5) (a := ⟨w.heap.size + 1, 0, none⟩) bl] at f0
  rw [← World.frozen?_of_block (w := W4) (w' := w5) (a := ⟨w.heap.size + 1, 1, none⟩) bl] at f1
  rw [← World.frozen?_of_block (w := W4) (w' := w5) (a := ⟨w.heap.size + 1, 2, none⟩) bl] at f2
  rw [← World.frozen?_of_block (w := W4) (w' := w5) (a := ⟨w.heap.size + 1, 3, none⟩) bl] at f3
  rw [← World.frozen?_of_block (w := W4) (w' := w5) (a := ⟨w.heap.size + 1, 4, none⟩) bl] at f4
  rw [← World.frozen?_of_block (w := W4) (w' := w5) (a := ⟨w.heap.size + 1, 5, none⟩) bl] at f5
  rw [← World.frozen?_of_block (w := W4) (w' := w5) (a := ⟨w.heap.size + 1, 6, none⟩) bl] at f6
  rw [← World.frozen?_of_block (w := W4) (w' := w5) (a := ⟨w.heap.size + 1, 7, none⟩) bl] at f7
  rw [← World.frozen?_of_block (w := W4) (w' := w5) (a := ⟨w.heap.size + 1, 8, none⟩) bl] at f8
  have H5 := Lib.hid (bl.trans k1)
  have B5 := Lib.hid (b4.trans (hb5.mono b4.size))
  have z5 : w.heap.size + 1 < w5.heap.size := by have := hb5.size; omega
  have cl1 : w5.cell? ⟨w.heap.size, 1, none⟩ = some (.slice (some ⟨g, 0, none⟩) n cap) := by rw [World.cell?_of_block (w := W4) (hb5.block w.heap.size (by omega))]; exact cell_heap k0 1 _ rfl
  have cpe : w5.cell? ⟨w.heap.size + 1 + 1 + 1, 0, none⟩ = some (.int .i64 ((q.size : Int) + 1)) := by rw [World.cell?_of_block (w := W4) (hb5.block (w.heap.size + 1 + 1 + 1) (by omega))]; exact cell_heap k3 0 _ rfl
  have crow : w5.cell? ⟨g, i, none⟩ = some (.string xb) := by
    rw [World.cell?_of_block (w := W4) (hb5.block g (by omega)), World.cell?_of_block (w := w) (b4.block g hg)]; exact CX.out
  have p0 : (0 : Int) ≤ (i : Int) := by omega
  have p1 : (i : Int) < (n : Int) := by omega
  have p2 : (0 : Int) ≤ (q.size : Int) + 1 := by omega
  have p3 : (q.size : Int) + 1 ≤ (xb.size : Int) := by omega
  have p4 : ((q.size : Int) + 1).toNat = q.size + 1 := by omega
  clear hW4 h4 b4 hb5 bl SR k0 k1 k2 k3
  go_wp2_with fail
  go_big_region
  go_wp2
  have hF := put9 _ _ _ _ _ _ _ _ _ (.bool true) (.bool false) (.bool true) (.bool false) (.int .u8 1) (.string (xb.extract (q.size + 1) xb.size)) (.slice none 0 0) (.map none) (.slice none 0 0) H5.out
  refine bodyPost_ret (v := strVar (xb.extract (q.size + 1) xb.size)) ?_ rfl ⟨rfl, ?_⟩
  · simp [results, Tryd.results141, go_sem, World.cell?_drew, strVar, cell_heap hF 0 _ rfl, cell_heap hF 1 _ rfl, cell_heap hF 2 _ rfl, cell_heap hF 3 _ rfl, cell_heap hF 4 _ rfl, cell_heap hF 5 _ rfl, cell_heap hF 6 _ rfl, cell_heap hF 7 _ rfl, cell_heap hF 8 _ rfl]
  · refine Below.drew ?_
    exact ((((((((B5.out.setCell (by simp) _).setCell (by simp) _).setCell (by simp) _).setCell (by simp) _).setCell (by simp) _).setCell (by simp) _).setCell (by simp) _).setCell (by simp) _).setCell (by simp) _

end Go.Proofs.YthihppocokkoiaaDoor
