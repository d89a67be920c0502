/-
  The environment's Get, case-sensitive: the last pair of that name, or the zero variable. Conditions: at most 2 to the 30 pairs of at most 2 to the 30 bytes, the name without '='.
-/
import Derived.Test.YthihppocokkoiaaDoorGetS
import Derived.Laws.ResultCell
namespace Go.Proofs.YthihppocokkoiaaDoor
set_option linter.unusedVariables false
open Go.Shelf Go.RowKit Go.Lib Go.Sort

/-- the zero Variable, and a set, exported String variable -/
def zeroVar : Value := .agg #[.bool false, .bool false, .bool false, .bool false, .int .u8 0, .string ⟨#[]⟩, .slice none 0 0, .map none, .slice none 0 0]
def strVar (s : ByteArray) : Value := .agg #[.bool true, .bool false, .bool true, .bool false, .int .u8 1, .string s, .slice none 0 0, .map none, .slice none 0 0]

theorem heap_at (w : World) (o1 o2 o3 o4 : Obj) : ((((w.alloc o1).alloc o2).alloc o3).alloc o4).heap[w.heap.size]? = some o1 ∧ ((((w.alloc o1).alloc o2).alloc o3).alloc o4).heap[w.heap.size + 1]? = some o2 ∧
    ((((w.alloc o1).alloc o2).alloc o3).alloc o4).heap[w.heap.size + 1 + 1]? = some o3 ∧ ((((w.alloc o1).alloc o2).alloc o3).alloc o4).heap[w.heap.size + 1 + 1 + 1]? = some o4 := by
  have e : ((((w.alloc o1).alloc o2).alloc o3).alloc o4).heap = (((w.heap.push o1).push o2).push o3).push o4 := rfl
  rw [e]
  refine ⟨?_, ?_, ?_, ?_⟩ <;> (simp only [Array.getElem?_push, Array.size_push]; repeat (first | rw [if_pos trivial] | rw [if_pos (by omega)] | rw [if_neg (by omega)]))
theorem cell_heap {W : World} {b : Nat} {cs : Array Value} {t : TypeId} (h : W.heap[b]? = some (.cells cs t)) (j : Nat) (v : Value) (hv : cs[j]? = some v) : W.cell? ⟨b, j, none⟩ = some v := by simp [World.cell?, h, hv]
theorem frozen_heap {W : World} {b : Nat} {cs : Array Value} {t : TypeId} (h : W.heap[b]? = some (.cells cs t)) (j : Nat) : W.frozen? ⟨b, j, none⟩ = false := by simp [World.frozen?, h]

theorem heap_set {W : World} {b : Nat} {cs : Array Value} {t : TypeId} (h : W.heap[b]? = some (.cells cs t)) (j : Nat) (v : Value) : (W.setCell ⟨b, j, none⟩ v).heap[b]? = some (.cells (cs.setIfInBounds j v) t) := by
  simp [World.setCell, Array.getElem?_modify, h]
/-- nine stores into a block of nine cells -/
theorem put9 {W : World} {b : Nat} {t : TypeId} (u0 u1 u2 u3 u4 u5 u6 u7 u8 v0 v1 v2 v3 v4 v5 v6 v7 v8 : Value) (h : W.heap[b]? = some (.cells #[u0, u1, u2, u3, u4, u5, u6, u7, u8] t)) :
    (((((((((W.setCell ⟨b, 0, none⟩ v0).setCell ⟨b, 1, none⟩ v1).setCell ⟨b, 2, none⟩ v2).setCell ⟨b, 3, none⟩ v3).setCell ⟨b, 4, none⟩ v4).setCell ⟨b, 5, none⟩ v5).setCell ⟨b, 6, none⟩ v6).setCell ⟨b, 7, none⟩ v7).setCell ⟨b, 8, none⟩ v8).heap[b]? = some (.cells #[v0, v1, v2, v3, v4, v5, v6, v7, v8] t) := by
  have h0 := heap_set h 0 v0
  rw [show (#[u0, u1, u2, u3, u4, u5, u6, u7, u8] : Array Value).setIfInBounds 0 v0 = #[v0, u1, u2, u3, u4, u5, u6, u7, u8] from rfl] at h0
  have h1 := heap_set h0 1 v1
  rw [show (#[v0, u1, u2, u3, u4, u5, u6, u7, u8] : Array Value).setIfInBounds 1 v1 = #[v0, v1, u2, u3, u4, u5, u6, u7, u8] from rfl] at h1
  have h2 := heap_set h1 2 v2
  rw [show (#[v0, v1, u2, u3, u4, u5, u6, u7, u8] : Array Value).setIfInBounds 2 v2 = #[v0, v1, v2, u3, u4, u5, u6, u7, u8] from rfl] at h2
  have h3 := heap_set h2 3 v3
  rw [show (#[v0, v1, v2, u3, u4, u5, u6, u7, u8] : Array Value).setIfInBounds 3 v3 = #[v0, v1, v2, v3, u4, u5, u6, u7, u8] from rfl] at h3
  have h4 := heap_set h3 4 v4
  rw [show (#[v0, v1, v2, v3, u4, u5, u6, u7, u8] : Array Value).setIfInBounds 4 v4 = #[v0, v1, v2, v3, v4, u5, u6, u7, u8] from rfl] at h4
  have h5 := heap_set h4 5 v5
  rw [show (#[v0, v1, v2, v3, v4, u5, u6, u7, u8] : Array Value).setIfInBounds 5 v5 = #[v0, v1, v2, v3, v4, v5, u6, u7, u8] from rfl] at h5
  have h6 := heap_set h5 6 v6
  rw [show (#[v0, v1, v2, v3, v4, v5, u6, u7, u8] : Array Value).setIfInBounds 6 v6 = #[v0, v1, v2, v3, v4, v5, v6, u7, u8] from rfl] at h6
  have h7 := heap_set h6 7 v7
  rw [show (#[v0, v1, v2, v3, v4, v5, v6, u7, u8] : Array Value).setIfInBounds 7 v7 = #[v0, v1, v2, v3, v4, v5, v6, v7, u8] from rfl] at h7
  have h8 := heap_set h7 8 v8
  rw [show (#[v0, v1, v2, v3, v4, v5, v6, v7, u8] : Array Value).setIfInBounds 8 v8 = #[v0, v1, v2, v3, v4, v5, v6, v7, v8] from rfl] at h8
  exact h8

set_option maxHeartbeats 2000000 in
theorem get_none_w (sv : Value) (q : ByteArray) (w : World) (sq : q.size ≤ 1073741824)
    (SR : Hid (∀ W, Below w.heap.size w W → W.heap.size = w.heap.size + 4 → W.cell? ⟨w.heap.size, 0, none⟩ = some (.bool false) → W.cell? ⟨w.heap.size, 1, none⟩ = some sv → W.cell? ⟨w.heap.size + 1 + 1, 0, none⟩ = some (.int .i64 q.size) → W.cell? ⟨w.heap.size + 1 + 1 + 1, 0, none⟩ = some (.int .i64 ((q.size : Int) + 1)) →
      Calls Tryd.prog 142 #[sv, .string q, .func (.func 143) #[] #[.pointer (some ⟨w.heap.size + 1 + 1 + 1, 0, none⟩), .pointer (some ⟨w.heap.size, 0, none⟩), .pointer (some ⟨w.heap.size + 1 + 1, 0, none⟩)]] W fun e w' => (∃ i : Nat, e = .returned (.tuple #[.int .i64 i, .bool false])) ∧ Below W.heap.size W w')) :
    Calls Tryd.prog 141 #[.agg #[.bool false, sv], .string q] w fun e w' => e = .returned zeroVar ∧ Below w.heap.size w w' := by
  go_enter Tryd.func141, Tryd.ntmps141
  go_wp2_with fail
  obtain ⟨W4, hW4⟩ : ∃ W, W = ((((w.alloc (.cells #[.bool false, sv] 97)).alloc (.cells #[.bool false, .bool false, .bool false, .bool false, .int .u8 0, .string ⟨#[]⟩, .slice none 0 0, .map none, .slice none 0 0] 34)).alloc (.cells #[.int .i64 q.size] 3)).alloc (.cells #[.int .i64 ((q.size : Int) + 1)] 3)) := ⟨_, rfl⟩
  rw [← hW4]
  obtain ⟨k0, k1, k2, k3⟩ := heap_at w (.cells #[.bool false, sv] 97) (.cells #[.bool false, .bool false, .bool false, .bool false, .int .u8 0, .string ⟨#[]⟩, .slice none 0 0, .map none, .slice none 0 0] 34) (.cells #[.int .i64 q.size] 3) (.cells #[.int .i64 ((q.size : Int) + 1)] 3)
  rw [← hW4] at k0 k1 k2 k3
  have h4 : W4.heap.size = w.heap.size + 4 := by rw [hW4]; simp
  have b4 : Below w.heap.size w W4 := by
    rw [hW4]; exact ((((Below.refl _ _).alloc (Nat.le_refl _) _).alloc (by simp) _).alloc (by simp; omega) _).alloc (by simp; omega) _
  have r0 : W4.cell? ⟨w.heap.size + 1, 0, none⟩ = some (.bool false) := cell_heap k1 0 _ rfl
  have r1 : W4.cell? ⟨w.heap.size + 1, 1, none⟩ = some (.bool false) := cell_heap k1 1 _ rfl
  have r2 : W4.cell? ⟨w.heap.size + 1, 2, none⟩ = some (.bool false) := cell_heap k1 2 _ rfl
  have r3 : W4.cell? ⟨w.heap.size + 1, 3, none⟩ = some (.bool false) := cell_heap k1 3 _ rfl
  have r4 : W4.cell? ⟨w.heap.size + 1, 4, none⟩ = some (.int .u8 0) := cell_heap k1 4 _ rfl
  have r5 : W4.cell? ⟨w.heap.size + 1, 5, none⟩ = some (.string ⟨#[]⟩) := cell_heap k1 5 _ rfl
  have r6 : W4.cell? ⟨w.heap.size + 1, 6, none⟩ = some (.slice none 0 0) := cell_heap k1 6 _ rfl
  have r7 : W4.cell? ⟨w.heap.size + 1, 7, none⟩ = some (.map none) := cell_heap k1 7 _ rfl
  have r8 : W4.cell? ⟨w.heap.size + 1, 8, none⟩ = some (.slice none 0 0) := cell_heap k1 8 _ rfl
  have f0 : W4.frozen? ⟨w.heap.size + 1, 0, none⟩ = false := frozen_heap k1 0
  have f1 : W4.frozen? ⟨w.heap.size + 1, 1, none⟩ = false := frozen_heap k1 1
  have f2 : W4.frozen? ⟨w.heap.size + 1, 2, none⟩ = false := frozen_heap k1 2
  have f3 : W4.frozen? ⟨w.heap.size + 1, 3, none⟩ = false := frozen_heap k1 3
  have f4 : W4.frozen? ⟨w.heap.size + 1, 4, none⟩ = false := frozen_heap k1 4
  have f5 : W4.frozen? ⟨w.heap.size + 1, 5, none⟩ = false := frozen_heap k1 5
  have f6 : W4.frozen? ⟨w.heap.size + 1, 6, none⟩ = false := frozen_heap k1 6
  have f7 : W4.frozen? ⟨w.heap.size + 1, 7, none⟩ = false := frozen_heap k1 7
  have f8 : W4.frozen? ⟨w.heap.size + 1, 8, none⟩ = false := frozen_heap k1 8
  refine (SR.out W4 b4 h4 (cell_heap k0 0 _ rfl) (cell_heap k0 1 _ rfl) (cell_heap k2 0 _ rfl) (cell_heap k3 0 _ rfl)).mono ?_
  rintro e w5 ⟨⟨i, rfl⟩, hb5⟩
  have bl := hb5.block (w.heap.size + 1) (by omega)
  rw [← World.cell?_of_block (w := W4) (w' := w5) (a := ⟨w.heap.size + 1, 0, none⟩) bl] at r0
  rw [← World.cell?_of_block (w := W4) (w' := w5) (a := ⟨w.heap.size + 1, 1, none⟩) bl] at r1
  rw [← World.cell?_of_block (w := W4) (w' := w5) (a := ⟨w.heap.size + 1, 2, none⟩) bl] at r2
  rw [← World.cell?_of_block (w := W4) (w' := w5) (a := ⟨w.heap.size + 1, 3, none⟩) bl] at r3
  rw [← World.cell?_of_block (w := W4) (w' := w5) (a := ⟨w.heap.size + 1, 4, none⟩) bl] at r4
  rw [← World.cell?_of_block (w := W4) (w' := w5) (a := ⟨w.heap.size + 1, 5, none⟩) bl] at r5
  rw [← World.cell?_of_block (w := W4) (w' := w5) (a := ⟨w.heap.size + 1, 6, none⟩) bl] at r6
  rw [← World.cell?_of_block (w := W4) (w' := w5) (a := ⟨w.heap.size + 1, 7, none⟩) bl] at r7
  rw [← World.cell?_of_block (w := W4) (w' := w5) (a := ⟨w.heap.size + 1, 8, none⟩) bl] at r8
  rw [← World.frozen?_of_block (w := W4) (w' := w5) (a := ⟨w.heap.size + 1, 0, none⟩) bl] at f0
  rw [← World.frozen?_of_block (w := W4) (w' := w5) (a := ⟨w.heap.size + 1, 1, none⟩) bl] at f1
  rw [← World.frozen?_of_block (w := W4) (w' := w5) (a := ⟨w.heap.size + 1, 2, none⟩) bl] at f2
  rw [← World.frozen?_of_block (w := W4) (w' := w5) (a := ⟨w.heap.size + 1, 3, none⟩) bl] at f3
  rw [← World.frozen?_of_block (w := W4) (w' := w5) (a := ⟨w.heap.size + 1, 4, none⟩) bl] at f4
  rw [← World.frozen?_of_block (w := W4) (w' := w5) (a := ⟨w.heap.size + 1, 5, none⟩) bl] at f5
  rw [← World.frozen?_of_block (w := W4) (w' := w5) (a := ⟨w.heap.size + 1, 6, none⟩) bl] at f6
  rw [← World.frozen?_of_block (w := W4) (w' := w5) (a := ⟨w.heap.size + 1, 7, none⟩) bl] at f7
  rw [← World.frozen?_of_block (w := W4) (w' := w5) (a := ⟨w.heap.size + 1, 8, none⟩) bl] at f8
  have H5 := Lib.hid (bl.trans k1)
  have B5 := Lib.hid (b4.trans (hb5.mono b4.size))
  have z5 : w.heap.size + 1 < w5.heap.size := by have := hb5.size; omega
  clear hW4 h4 b4 hb5 bl SR k0 k1 k2 k3
  go_wp2
  have hF := put9 _ _ _ _ _ _ _ _ _ (.bool false) (.bool false) (.bool false) (.bool false) (.int .u8 0) (.string ⟨#[]⟩) (.slice none 0 0) (.map none) (.slice none 0 0) H5.out
  refine bodyPost_ret (v := zeroVar) ?_ rfl ⟨rfl, ?_⟩
  · simp [results, Tryd.results141, go_sem, zeroVar, cell_heap hF 0 _ rfl, cell_heap hF 1 _ rfl, cell_heap hF 2 _ rfl, cell_heap hF 3 _ rfl, cell_heap hF 4 _ rfl, cell_heap hF 5 _ rfl, cell_heap hF 6 _ rfl, cell_heap hF 7 _ rfl, cell_heap hF 8 _ rfl]
  · exact ((((((((B5.out.setCell (by simp) _).setCell (by simp) _).setCell (by simp) _).setCell (by simp) _).setCell (by simp) _).setCell (by simp) _).setCell (by simp) _).setCell (by simp) _).setCell (by simp) _
end Go.Proofs.YthihppocokkoiaaDoor
