/-
  A bytes.Buffer under the printer: grow, Write of another block's bytes, WriteString, each with the frame that every other block stays. Conditions: those in each theorem.
-/
import Derived.Test.YtonhphjejlidiaaShelf
import Derived.Test.YtonhphjejlidiaaPrP
import Derived.Lib.BufferOwn
namespace Go.Proofs.Ytonhphjejlidiaa
set_option linter.unusedVariables false
open Go.Shelf Go.RowKit Go.Lib

/-- block b is a Buffer that holds l; its row is v's -/
structure BufS (b : Nat) (l : List UInt8) (v : Value) (w : World) : Prop where
  head : ∃ lr, w.heap[b]? = some (.cells #[v, .int .i64 0, .int .i8 lr] 67 (0, 0))
  row : (l = [] ∧ v = .slice none 0 0) ∨ l ≠ [] ∧ ∃ g cap cur, v = .slice (some ⟨g, 0, none⟩) l.length cap ∧ w.heap[g]? = some (.cells cur 5 (0, 0)) ∧ l.length ≤ cap ∧ cap ≤ maxLen ∧ cur.size = cap ∧ cur.toList.take l.length = Lib.byteCells l ∧ g ≠ b

theorem BufS.isBuffer {b : Nat} {l : List UInt8} {v : Value} {w : World} (h : BufS b l v w) : Lib.IsBuffer 67 5 0 b (Lib.byteCells l) w := by
  obtain ⟨⟨lr, hb⟩, hr⟩ := h
  have hlen : (Lib.byteCells l).length = l.length := Lib.byteCells_length l
  refine ⟨Nat.zero_le _, v, lr, hb, ⟨by omega, ?_⟩, ?_⟩
  · rcases hr with ⟨rfl, rfl⟩ | ⟨hne, g, cap, cur, rfl, hg, h1, h2, h3, h4, h5⟩
    · exact .inl ⟨rfl, rfl⟩
    · exact .inr ⟨g, cap, cur, by rw [hlen], Nat.zero_le _, hg, by omega, h2, by omega, by rw [hlen, Nat.mul_one]; exact h4⟩
  · rcases hr with ⟨rfl, rfl⟩ | ⟨hne, g, cap, cur, rfl, hg, h1, h2, h3, h4, h5⟩
    · simp [Value.ownBlock]
    · simp only [Value.ownBlock, ne_eq, Option.some.injEq]; exact h5

/-- the frame of a write -/
structure Fr (b : Nat) (v v' : Value) (w w' : World) : Prop where
  os : w'.os = w.os
  tape : w'.tape = w.tape
  output : w'.output = w.output
  size : w.heap.size ≤ w'.heap.size
  block : ∀ k, k < w.heap.size → k ≠ b → v.ownBlock ≠ some k → w'.heap[k]? = w.heap[k]?
  own : v'.ownBlock = v.ownBlock ∨ ∃ g, v'.ownBlock = some g ∧ w.heap.size ≤ g

/-- behind grow, or behind a reslice: a row N with room for n more -/
structure Roomy (b n : Nat) (l : List UInt8) (v : Value) (w w' : World) (N cap2 : Nat) (cells : Array Value) : Prop where
  head : ∃ lr, w'.heap[b]? = some (.cells #[.slice (some ⟨N, 0, none⟩) (l.length + n) cap2, .int .i64 0, .int .i8 lr] 67 (0, 0))
  row : w'.heap[N]? = some (.cells cells 5 (0, 0))
  csize : cells.size = cap2
  taken : cells.toList.take l.length = Lib.byteCells l
  room : l.length + n ≤ cap2
  lim : cap2 ≤ maxLen
  ne : N ≠ b
  grown : w.grownBy w' (some b)
  own : v.ownBlock = some N ∨ w.heap.size ≤ N

theorem Roomy.drop {b n : Nat} {l : List UInt8} {v : Value} {w w0 w' : World} {N cap2 : Nat} {cells : Array Value} (h : Roomy b n l v w w' N cap2 cells) (g : w0.grownBy w (some b)) : Roomy b n l v w0 w' N cap2 cells :=
  ⟨h.head, h.row, h.csize, h.taken, h.room, h.lim, h.ne, Lib.grownBy_trans g h.grown, h.own.imp id (fun x => Nat.le_trans g.size x)⟩

/-- the new bytes are written into the row -/
theorem Roomy.written {b n : Nat} {l m : List UInt8} {v : Value} {w w' : World} {N cap2 : Nat} {cells : Array Value} (h : Roomy b n l v w w' N cap2 cells) (hm : m.length = n) (h1 : 1 ≤ n) :
    BufS b (l ++ m) (.slice (some ⟨N, 0, none⟩) (l.length + n) cap2) (w'.setRow N (cells.toList.take l.length ++ Lib.byteCells m ++ cells.toList.drop (l.length + n)).toArray) ∧
    Fr b v (.slice (some ⟨N, 0, none⟩) (l.length + n) cap2) w (w'.setRow N (cells.toList.take l.length ++ Lib.byteCells m ++ cells.toList.drop (l.length + n)).toArray) := by
  have hlm : (Lib.byteCells m).length = n := by rw [Lib.byteCells_length, hm]
  have hll : (Lib.byteCells l).length = l.length := Lib.byteCells_length l
  have hcs := h.csize
  have hro := h.room
  obtain ⟨lr, hb⟩ := h.head
  refine ⟨⟨⟨lr, by rw [setRow_other _ _ _ _ (Ne.symm h.ne)]; exact hb⟩, .inr ⟨fun e => by have := congrArg List.length e; simp at this; obtain ⟨_, rfl⟩ := this; simp at hm; omega, N, cap2, _, by rw [List.length_append, hm], setRow_heap _ _ _ _ _ _ h.row, by rw [List.length_append, hm]; exact h.room, h.lim, ?_, ?_, h.ne⟩⟩, ?_⟩
  · rw [h.taken]
    simp only [List.size_toArray, List.length_append, hll, hlm, List.length_drop, Array.length_toList]; omega
  · rw [h.taken, List.toList_toArray, List.length_append, hm, List.take_append_of_le_length (by rw [List.length_append, hll, hlm]; exact Nat.le_refl _), List.take_of_length_le (by rw [List.length_append, hll, hlm]; exact Nat.le_refl _), Lib.byteCells_append]
  · refine ⟨h.grown.os, h.grown.tape, h.grown.output, by rw [setRow_size]; exact h.grown.size, fun k hk hkb hkv => ?_, ?_⟩
    · have hkN : k ≠ N := by
        rintro rfl
        rcases h.own with e | e
        · exact hkv e
        · omega
      rw [setRow_other _ _ _ _ hkN]
      exact h.grown.block k hk (fun e => hkb (Option.some.inj e))
    · rcases h.own with e | e
      · exact .inl e.symm
      · exact .inr ⟨N, rfl, e⟩

/-- what grow hands back -/
def GrowOut (b n : Nat) (l : List UInt8) (v : Value) (w : World) (e : Ending) (w' : World) : Prop :=
  e = .returned (.int .i64 l.length) ∧ ∃ N cap2 cells, Roomy b n l v w w' N cap2 cells

theorem info5 : ∃ i z, Try.prog.info? 5 = some i ∧ i.zero = some z ∧ i.size = 1 ∧ i.bytes = 1 ∧ z = Value.int .u8 0 := by
  have h1 : (Try.prog.info? 5).map (·.size) = some 1 := by kernel_rfl
  have h2 : (Try.prog.info? 5).map (·.bytes) = some 1 := by kernel_rfl
  have h3 : (Try.prog.info? 5).bind (·.zero) = some (Value.int .u8 0) := by kernel_rfl
  cases h : Try.prog.info? 5 with
  | none => rw [h] at h1; cases h1
  | some i =>
    rw [h] at h1 h2 h3
    exact ⟨i, _, rfl, h3, Option.some.inj h1, Option.some.inj h2, rfl⟩

set_option maxHeartbeats 2000000 in
set_option maxRecDepth 100000 in
theorem grow_nil_small (b n : Nat) (lr : Int) (w : World) (hbk : w.heap[b]? = some (.cells #[.slice none 0 0, .int .i64 0, .int .i8 lr] 67 (0, 0))) (hn : 1 ≤ n) (h64 : n ≤ 64) :
    Calls Try.prog 96 #[.pointer (some ⟨b, 0, none⟩), .int .i64 n] w (GrowOut b n [] (.slice none 0 0) w) := by
  obtain ⟨i0, z0, hi, hz0, hz1, hz2, rfl⟩ := info5
  obtain ⟨M, hM⟩ : ∃ M, M = madeCells (Value.int .u8 0).cells ((64 : Int).toNat * i0.size) := ⟨_, rfl⟩
  have hMs : M.size = 64 := by rw [hM, size_madeCells, hz1]; rfl
  have hmk : ∀ W : World, (Instr.makeSlice 54 (.int .i64 (n : Int)) (.int .i64 64)).run Try.prog W = .ok (.slice (some ⟨W.heap.size, 0, none⟩) n 64) (W.alloc (.cells M 5)) := fun W => by
    have h := run_makeSlice (P := Try.prog) W 54 5 i0 (.int .u8 0) Try.underlying54 hi hz0 .i64 .i64 (n : Int) 64 (by omega) (by omega) (by rw [hz1]; decide) (by rw [hz2]; decide) (by decide)
    rw [← hM] at h
    simpa using h
  clear hM
  have hS : BufS b [] (.slice none 0 0) w := ⟨⟨lr, hbk⟩, .inl ⟨rfl, rfl⟩⟩
  have hIs := hS.isBuffer
  have hnil : ∀ W, (binOp .eql 54 (.slice none 0 0) (.slice none 0 0)).run Try.prog W = .ok (.bool true) W := fun W => Lib.run_eql_slice_nil_nil W _ _ Try.underlying54
  go_enter Try.func96, Try.ntmps96
  go_wp2_with (go_at_call 97; refine (Try.Buffer_Len 0 b _ _ hIs).mono ?_)
  rintro e W0 ⟨rfl, k, hW0⟩
  have hbk0 : W0.heap[b]? = some (.cells #[.slice none 0 0, .int .i64 0, .int .i8 lr] 67 (0, 0)) := by rw [hW0]; exact hbk
  have c0 : W0.cell? ⟨b, 0, none⟩ = some (.slice none 0 0) := by rw [Lib.cell_of_heap hbk0]; rfl
  have c1 : W0.cell? ⟨b, 1, none⟩ = some (.int .i64 0) := by rw [Lib.cell_of_heap hbk0]; rfl
  have f0 : W0.frozen? ⟨b, 0, none⟩ = false := Lib.frozen_of_heap hbk0 0
  have f1 : W0.frozen? ⟨b, 1, none⟩ = false := Lib.frozen_of_heap hbk0 1
  have hbW0 := Lib.lt_of_heap hbk0
  have c0a : ∀ o, (W0.alloc o).cell? ⟨b, 0, none⟩ = some (.slice none 0 0) := fun o => (World.cell?_of_block (a := ⟨b, 0, none⟩) (Below.heap_alloc W0 o b hbW0)).trans c0
  have f0a : ∀ o, (W0.alloc o).frozen? ⟨b, 0, none⟩ = false := fun o => (World.frozen?_of_block (a := ⟨b, 0, none⟩) (Below.heap_alloc W0 o b hbW0)).trans f0
  have HW0 := Lib.hid hW0
  clear hW0 hIs hS
  go_wp2_with (go_at_call 95; refine (Try.Buffer_tryGrow_none b _ 0 0 n _ c0 (Nat.le_refl _) (Nat.zero_le _) (by omega)).mono ?_; rintro e w' ⟨rfl, rfl⟩)
  go_ret
  have hG : w.grownBy w' (some b) := by rw [HW0.out]; exact ⟨rfl, rfl, rfl, Nat.le_refl _, fun _ _ _ => rfl⟩
  have hsz : (w'.setCell ⟨b, 0, none⟩ (.slice (some ⟨w'.heap.size, 0, none⟩) n 64)).heap.size = w'.heap.size := by simp [World.setCell]
  refine ⟨rfl, w'.heap.size, 64, M, ⟨lr, ?_⟩, ?_, hMs, by simp [Lib.byteCells], by simpa using h64, by unfold maxLen; omega, by omega, Lib.grownBy_allocR (Lib.grownBy_setB hG 0 _) _, .inr hG.size⟩
  · rw [Below.heap_alloc _ _ b (by rw [hsz]; exact hbW0)]
    have := Lib.heap_setCell_same (i := 0) hbk0 (.slice (some ⟨w'.heap.size, 0, none⟩) n 64)
    simpa using this
  · have h := heap_alloc_new (w'.setCell ⟨b, 0, none⟩ (.slice (some ⟨w'.heap.size, 0, none⟩) n 64)) (.cells M 5)
    rw [hsz] at h
    exact h

/-- what the row's grown slice gives -/
theorem roomy_end {b N n m cap2 : Nat} {lr : Int} {l : List UInt8} {v v0 v1 : Value} {w w2 : World} {cells : Array Value} (hbk : w2.heap[b]? = some (.cells #[v0, .int .i64 0, .int .i8 lr] 67 (0, 0))) (hN : w2.heap[N]? = some (.cells cells 5 (0, 0)))
    (hmn : m = l.length + n) (hs : cells.size = cap2) (ht : cells.toList.take l.length = Lib.byteCells l) (hr : l.length + n ≤ cap2) (hm : cap2 ≤ maxLen) (hNb : N ≠ b) (hg : w.grownBy w2 (some b)) (hw : w.heap.size ≤ N) :
    Roomy b n l v w (((w2.setCell ⟨b, 0, none⟩ v1).setCell ⟨b, 1, none⟩ (.int .i64 0)).setCell ⟨b, 0, none⟩ (.slice (some ⟨N, 0, none⟩) m cap2)) N cap2 cells := by
  subst hmn
  refine ⟨⟨lr, Lib.heap_setCell_same (i := 0) (Lib.heap_setCell_same (i := 1) (Lib.heap_setCell_same (i := 0) hbk v1) (.int .i64 0)) (.slice (some ⟨N, 0, none⟩) (l.length + n) cap2)⟩, ?_, hs, ht, hr, hm, hNb, Lib.grownBy_setB (Lib.grownBy_setB (Lib.grownBy_setB hg 0 _) 1 _) 0 _, .inr hw⟩
  rw [Below.heap_setCell _ _ _ _ hNb, Below.heap_setCell _ _ _ _ hNb, Below.heap_setCell _ _ _ _ hNb]
  exact hN

set_option maxHeartbeats 2000000 in
set_option maxRecDepth 100000 in
theorem grow_nil_big (b n : Nat) (lr : Int) (w : World) (hbk : w.heap[b]? = some (.cells #[.slice none 0 0, .int .i64 0, .int .i8 lr] 67 (0, 0))) (hn : 65 ≤ n) (hlim : n ≤ 1073741824) :
    Calls Try.prog 96 #[.pointer (some ⟨b, 0, none⟩), .int .i64 n] w (GrowOut b n [] (.slice none 0 0) w) := by
  have hS : BufS b [] (.slice none 0 0) w := ⟨⟨lr, hbk⟩, .inl ⟨rfl, rfl⟩⟩
  have hIs := hS.isBuffer
  have hnil : ∀ W, (binOp .eql 54 (.slice none 0 0) (.slice none 0 0)).run Try.prog W = .ok (.bool true) W := fun W => Lib.run_eql_slice_nil_nil W _ _ Try.underlying54
  go_enter Try.func96, Try.ntmps96
  go_wp2_with (go_at_call 97; refine (Try.Buffer_Len 0 b _ _ hIs).mono ?_)
  rintro e W0 ⟨rfl, k, hW0⟩
  have hbk0 : W0.heap[b]? = some (.cells #[.slice none 0 0, .int .i64 0, .int .i8 lr] 67 (0, 0)) := by rw [hW0]; exact hbk
  have c0 : W0.cell? ⟨b, 0, none⟩ = some (.slice none 0 0) := by rw [Lib.cell_of_heap hbk0]; rfl
  have c1 : W0.cell? ⟨b, 1, none⟩ = some (.int .i64 0) := by rw [Lib.cell_of_heap hbk0]; rfl
  have f0 : W0.frozen? ⟨b, 0, none⟩ = false := Lib.frozen_of_heap hbk0 0
  have f1 : W0.frozen? ⟨b, 1, none⟩ = false := Lib.frozen_of_heap hbk0 1
  have HW0 := Lib.hid hW0
  clear hW0 hIs hS
  go_wp2_with (go_at_call 95; refine (Try.Buffer_tryGrow_none b _ 0 0 n _ c0 (Nat.le_refl _) (Nat.zero_le _) (by omega)).mono ?_; rintro e w' ⟨rfl, rfl⟩)
  have mixed : Try.prog.follows .mixedOrders = true := by kernel_rfl
  have hbW := Lib.lt_of_heap hbk0
  have hwn : IntKind.i64.wrap (n : Int) = n := by rw [IntKind.wrap_i64]; omega
  go_region_with_o (
      go_at_call 98
      refine (Try.bytes_growSlice_nil n _ (by omega) (by omega)).mono ?_
      rintro e w2 ⟨cap2, cells, rfl, hN, hcsz, hcap2, hcm2, hbel⟩
      have hbk2 : w2.heap[b]? = some (.cells #[.slice none 0 0, .int .i64 0, .int .i8 lr] 67 (0, 0)) := (hbel.block b hbW).trans hbk0
      have d0 : w2.cell? ⟨b, 0, none⟩ = some (.slice none 0 0) := by rw [Lib.cell_of_heap hbk2]; rfl
      have d1 : w2.cell? ⟨b, 1, none⟩ = some (.int .i64 0) := by rw [Lib.cell_of_heap hbk2]; rfl
      have e0 : w2.frozen? ⟨b, 0, none⟩ = false := Lib.frozen_of_heap hbk2 0
      have e1 : w2.frozen? ⟨b, 1, none⟩ = false := Lib.frozen_of_heap hbk2 1)
  all_goals (
    go_wp2
    go_ret
    have hsz0 : w'.heap.size = w.heap.size := by rw [HW0.out]; rfl
    have hg2 : w.grownBy w2 (some b) := Lib.grownBy_below (w := w'.drew) (by rw [HW0.out]; exact ⟨rfl, rfl, rfl, Nat.le_refl _, fun _ _ _ => rfl⟩) hbel
    exact ⟨rfl, w'.heap.size, cap2, cells, roomy_end hbk2 hN (by simp) hcsz (by simp [Lib.byteCells]) (by simpa using hcap2) hcm2 (by omega) hg2 (by omega)⟩)

set_option maxHeartbeats 2000000 in
set_option maxRecDepth 100000 in
theorem grow_row (b g cap n : Nat) (lr : Int) (l : List UInt8) (cur : Array Value) (w : World)
    (hbk : w.heap[b]? = some (.cells #[.slice (some ⟨g, 0, none⟩) l.length cap, .int .i64 0, .int .i8 lr] 67 (0, 0)))
    (hg : w.heap[g]? = some (.cells cur 5 (0, 0))) (hlc : l.length ≤ cap) (hcm : cap ≤ maxLen) (hcs : cur.size = cap) (htake : cur.toList.take l.length = Lib.byteCells l) (hgb : g ≠ b) (hl1 : l ≠ [])
    (hn : 1 ≤ n) (hroom : cap - l.length < n) (hlim : l.length + n ≤ 1073741824) :
    Calls Try.prog 96 #[.pointer (some ⟨b, 0, none⟩), .int .i64 n] w (GrowOut b n l (.slice (some ⟨g, 0, none⟩) l.length cap) w) := by
  have hS : BufS b l (.slice (some ⟨g, 0, none⟩) l.length cap) w := ⟨⟨lr, hbk⟩, .inr ⟨hl1, g, cap, cur, rfl, hg, hlc, hcm, hcs, htake, hgb⟩⟩
  have hIs := hS.isBuffer
  have hbl : (Lib.byteCells l).length = l.length := Lib.byteCells_length l
  obtain ⟨m, hm⟩ : ∃ m, m = l.length := ⟨_, rfl⟩
  have hm0 : 0 < m := by rw [hm]; exact List.length_pos_iff.2 hl1
  have hnil : ∀ W, (binOp .eql 54 (.slice (some ⟨g, 0, none⟩) m cap) (.slice none 0 0)).run Try.prog W = .ok (.bool false) W := fun W => Lib.run_eql_slice_some_nil W _ _ _ Try.underlying54
  have h1' : ∀ v ∈ cur.toList.take m, v.oneCell' = true := by rw [hm, htake]; exact Lib.byteCells_one _
  have HT : Hid (cur.toList.take l.length = Lib.byteCells l) := Lib.hid htake
  have HM := Lib.hid hm
  rw [← hm] at hbk hlc hroom hlim hbl
  clear hS htake hm hl1
  go_enter Try.func96, Try.ntmps96
  go_wp2_with (go_at_call 97; refine (Try.Buffer_Len 0 b _ _ hIs).mono ?_)
  rintro e W0 ⟨rfl, k, hW0⟩
  rw [hbl]
  have hbk0 : W0.heap[b]? = some (.cells #[.slice (some ⟨g, 0, none⟩) m cap, .int .i64 0, .int .i8 lr] 67 (0, 0)) := by rw [hW0]; exact hbk
  have hg0 : W0.heap[g]? = some (.cells cur 5 (0, 0)) := by rw [hW0]; exact hg
  have c0 : W0.cell? ⟨b, 0, none⟩ = some (.slice (some ⟨g, 0, none⟩) m cap) := by rw [Lib.cell_of_heap hbk0]; rfl
  have c1 : W0.cell? ⟨b, 1, none⟩ = some (.int .i64 0) := by rw [Lib.cell_of_heap hbk0]; rfl
  have f0 : W0.frozen? ⟨b, 0, none⟩ = false := Lib.frozen_of_heap hbk0 0
  have f1 : W0.frozen? ⟨b, 1, none⟩ = false := Lib.frozen_of_heap hbk0 1
  have HW0 := Lib.hid hW0
  clear hW0 hIs
  have hcm' := hcm
  unfold maxLen at hcm'
  go_wp2_with (go_at_call 95; refine (Try.Buffer_tryGrow_none b _ m cap n _ c0 hlc hcm hroom).mono ?_; rintro e w' ⟨rfl, rfl⟩)
  have hc2 : cap ≤ 140737488355328 := by omega
  have mixed : Try.prog.follows .mixedOrders = true := by kernel_rfl
  have hbW := Lib.lt_of_heap hbk0
  have hwn : IntKind.i64.wrap (n : Int) = n := by rw [IntKind.wrap_i64]; omega
  go_region_with_o (
      go_at_call 98
      refine (Try.bytes_growSlice_row g m cap n cur _ ?_ hcs hlc hn (by omega) hc2 h1').mono ?_
      exact hg0
      rintro e w2 ⟨cap2, cells, rfl, hN, hcsz, htk, hcap2, hcm2, hbel⟩
      have hbk2 : w2.heap[b]? = some (.cells #[.slice (some ⟨g, 0, none⟩) m cap, .int .i64 0, .int .i8 lr] 67 (0, 0)) := (hbel.block b hbW).trans hbk0
      have d0 : w2.cell? ⟨b, 0, none⟩ = some (.slice (some ⟨g, 0, none⟩) m cap) := by rw [Lib.cell_of_heap hbk2]; rfl
      have d1 : w2.cell? ⟨b, 1, none⟩ = some (.int .i64 0) := by rw [Lib.cell_of_heap hbk2]; rfl
      have e0 : w2.frozen? ⟨b, 0, none⟩ = false := Lib.frozen_of_heap hbk2 0
      have e1 : w2.frozen? ⟨b, 1, none⟩ = false := Lib.frozen_of_heap hbk2 1)
  all_goals (
    go_wp2
    go_ret
    have hsz0 : w'.heap.size = w.heap.size := by rw [HW0.out]; rfl
    have hm := HM.out
    have hg2 : w.grownBy w2 (some b) := Lib.grownBy_below (w := w'.drew) (by rw [HW0.out]; exact ⟨rfl, rfl, rfl, Nat.le_refl _, fun _ _ _ => rfl⟩) hbel
    exact ⟨by rw [← hm]; rfl, w'.heap.size, cap2, cells, roomy_end hbk2 hN (by rw [hm]) hcsz (by rw [← hm, htk, hm]; exact HT.out) (by rw [← hm]; exact hcap2) hcm2 (by omega) hg2 (by omega)⟩)
end Go.Proofs.Ytonhphjejlidiaa
