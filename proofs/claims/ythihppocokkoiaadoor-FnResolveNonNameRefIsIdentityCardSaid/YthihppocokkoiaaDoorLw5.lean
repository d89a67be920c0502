/-
  The helpers of the law of a variable that is no reference (written by genX.py): the bound, whole-number slices, the two looks at like slices, the last value of a key. Conditions: those in each theorem.
-/
import Derived.Test.YthihppocokkoiaaDoorLwQ
import Derived.Test.YthihppocokkoiaaDoorLwV
namespace Go.Proofs.YthihppocokkoiaaDoor
set_option linter.unusedVariables false
open Go.Shelf Go.RowKit Go.Lib Go.Sort

/-- a slice of whole numbers -/
def Ints (w : World) (v : Value) (X : List Int) : Prop :=
  ∃ a c, v = .slice a X.length c ∧ (X ≠ [] → ∃ b off, a = some ⟨b, off, none⟩ ∧ b < w.heap.size ∧ ∀ j, j < X.length → w.cell? ⟨b, off + j, none⟩ = some (.int .i64 (X.getD j 0)))
theorem ints_cells {w : World} {a : Option Addr} {c : Nat} {X : List Int} (hv : Ints w (.slice a X.length c) X) : X ≠ [] → ∃ b off, a = some ⟨b, off, none⟩ ∧ b < w.heap.size ∧ ∀ j, j < X.length → w.cell? ⟨b, off + j, none⟩ = some (.int .i64 (X.getD j 0)) := fun hne => by
  obtain ⟨a', c', h, hc⟩ := hv
  cases h
  exact hc hne
theorem ints_below {w W : World} {v : Value} {X : List Int} (hv : Ints w v X) (hB : Below w.heap.size w W) : Ints W v X := by
  obtain ⟨a, c, h, hc⟩ := hv
  refine ⟨a, c, h, fun hne => ?_⟩
  obtain ⟨b, off, h1, h2, h3⟩ := hc hne
  exact ⟨b, off, h1, Nat.lt_of_lt_of_le h2 hB.size, fun j hj => (World.cell?_of_block (w := w) (hB.block b h2)).trans (h3 j hj)⟩
theorem texts_cellsX {w : World} {a : Option Addr} {c : Nat} {P : List ByteArray} (hv : Texts w (.slice a P.length c) P) : P ≠ [] → ∃ b off, a = some ⟨b, off, none⟩ ∧ ∀ j, j < P.length → w.cell? ⟨b, off + j, none⟩ = some (.string (P.getD j ByteArray.empty)) := fun hne => by
  obtain ⟨a', c', h, hc⟩ := hv
  cases h
  obtain ⟨b, off, h1, _, h2⟩ := hc hne
  exact ⟨b, off, h1, h2⟩
theorem below_drewX {B : Nat} {w w' : World} (h : Below B w w') (n : Nat) : Below B w (w'.drewN n) := ⟨h.os, h.tape, h.output, h.size, h.block⟩

set_option maxRecDepth 20000 in
set_option maxHeartbeats 8000000 in
theorem bytes31 (a0 a7 a9 a10 : Option Addr) (c0 c7 c9 c10 : Nat) (P Q M V : List ByteArray) (xa : Option Addr) (xn xc : Nat) (s : ByteArray) (b1 b2 b3 b4 b11 : Bool) (kd : Int) (w : World)
    (h0 : P ≠ [] → ∃ b off, a0 = some ⟨b, off, none⟩ ∧ ∀ j, j < P.length → w.cell? ⟨b, off + j, none⟩ = some (.string (P.getD j ByteArray.empty))) (h7 : Q ≠ [] → ∃ b off, a7 = some ⟨b, off, none⟩ ∧ ∀ j, j < Q.length → w.cell? ⟨b, off + j, none⟩ = some (.string (Q.getD j ByteArray.empty))) (h9 : M ≠ [] → ∃ b off, a9 = some ⟨b, off, none⟩ ∧ ∀ j, j < M.length → w.cell? ⟨b, off + j, none⟩ = some (.string (M.getD j ByteArray.empty))) (h10 : V ≠ [] → ∃ b off, a10 = some ⟨b, off, none⟩ ∧ ∀ j, j < V.length → w.cell? ⟨b, off + j, none⟩ = some (.string (V.getD j ByteArray.empty))) :
    Calls Tryd.prog 31 #[.slice a0 P.length c0, .bool b1, .bool b2, .bool b3, .bool b4, .int .u8 kd, .string s, .slice a7 Q.length c7, .slice xa xn xc, .slice a9 M.length c9, .slice a10 V.length c10, .bool b11] w fun e w' => GuardSay (Small P ∧ s.size ≤ 1048576 ∧ Small Q ∧ xn ≤ 1048576 ∧ Small M ∧ Small V) e ∧ w = w' := by
  have H7 := Lib.hid h7
  have H9 := Lib.hid h9
  have H10 := Lib.hid h10
  clear h7 h9 h10
  go_enter Tryd.func31, Tryd.ntmps31
  by_cases e0 : (1048576 : Int) < (P.length : Int)
  · go_wp2
    go_ret
    exact ⟨gs_no rfl, rfl⟩
  go_wp2
  go_loop [25, 26] (fun v25 v26 => ∃ t k : Nat, v25 = .int .i64 t ∧ v26 = .int .i64 k ∧ (t : Int) ≤ 1048576 ∧ (k : Int) ≤ (P.length : Int) ∧ Hid (∀ j, j < k → (P.getD j ByteArray.empty).size ≤ 1048576)) (fun v25 v26 => P.length - (intOf v26).toNat)
  case atStart => exact ⟨P.length, 0, by go_num, rfl, by omega, by omega, Lib.hid fun j hj => by omega⟩
  case round =>
    obtain ⟨t26, k, rfl, rfl, ht26, hk, HS⟩ := hrel
    by_cases hlt : (k : Int) < (P.length : Int)
    · obtain ⟨b, off, rfl, hcell⟩ := h0 (by rintro rfl; simp at hlt; omega)
      have hx := hcell k (by omega)
      obtain ⟨y, hy⟩ : ∃ y, y = P.getD k ByteArray.empty := ⟨_, rfl⟩
      rw [← hy] at hx
      have HS2 : Hid (y.size ≤ 1048576 → ∀ j, j < k + 1 → (P.getD j ByteArray.empty).size ≤ 1048576) := Lib.hid fun h j hj => by
        by_cases e : j = k
        · subst e; rw [← hy]; exact h
        · exact HS.out j (by omega)
      clear hcell hy h0
      by_cases c1 : (1048576 : Int) < (y.size : Int)
      · go_wp2
        go_ret
        exact ⟨gs_no rfl, rfl⟩
      · by_cases c2 : (1048576 : Int) < (t26 : Int) + (y.size : Int)
        · go_wp2
          go_ret
          exact ⟨gs_no rfl, rfl⟩
        · go_wp2
          go_round
          case rel => exact ⟨t26 + y.size, k + 1, by go_num, by go_num, by omega, by omega, Lib.hid (HS2.out (by omega))⟩
          case measure => simp [intOf]; omega
    · have F26 : Hid (Small P) := Lib.hid ⟨by omega, fun j hj => HS.out j (by omega)⟩
      clear HS h0
      by_cases e6a : (1048576 : Int) < (s.size : Int)
      · go_wp2
        go_ret
        exact ⟨gs_no rfl, rfl⟩
      by_cases e6b : (1048576 : Int) < (t26 : Int) + (s.size : Int)
      · go_wp2
        go_ret
        exact ⟨gs_no rfl, rfl⟩
      by_cases e7a : (1048576 : Int) < (Q.length : Int)
      · go_wp2
        go_ret
        exact ⟨gs_no rfl, rfl⟩
      by_cases e7b : (1048576 : Int) < (t26 : Int) + (s.size : Int) + (Q.length : Int)
      · go_wp2
        go_ret
        exact ⟨gs_no rfl, rfl⟩
      go_wp2
      go_loop [25, 27] (fun v25 v27 => ∃ t k : Nat, v25 = .int .i64 t ∧ v27 = .int .i64 k ∧ (t : Int) ≤ 1048576 ∧ (k : Int) ≤ (Q.length : Int) ∧ Hid (∀ j, j < k → (Q.getD j ByteArray.empty).size ≤ 1048576)) (fun v25 v27 => Q.length - (intOf v27).toNat)
      case atStart => exact ⟨t26 + s.size + Q.length, 0, by go_num, rfl, by omega, by omega, Lib.hid fun j hj => by omega⟩
      case round =>
        obtain ⟨t27, k, rfl, rfl, ht27, hk, HS⟩ := hrel
        by_cases hlt : (k : Int) < (Q.length : Int)
        · obtain ⟨b, off, rfl, hcell⟩ := H7.out (by rintro rfl; simp at hlt; omega)
          have hx := hcell k (by omega)
          obtain ⟨y, hy⟩ : ∃ y, y = Q.getD k ByteArray.empty := ⟨_, rfl⟩
          rw [← hy] at hx
          have HS2 : Hid (y.size ≤ 1048576 → ∀ j, j < k + 1 → (Q.getD j ByteArray.empty).size ≤ 1048576) := Lib.hid fun h j hj => by
            by_cases e : j = k
            · subst e; rw [← hy]; exact h
            · exact HS.out j (by omega)
          clear hcell hy
          by_cases c1 : (1048576 : Int) < (y.size : Int)
          · go_wp2
            go_ret
            exact ⟨gs_no rfl, rfl⟩
          · by_cases c2 : (1048576 : Int) < (t27 : Int) + (y.size : Int)
            · go_wp2
              go_ret
              exact ⟨gs_no rfl, rfl⟩
            · go_wp2
              go_round
              case rel => exact ⟨t27 + y.size, k + 1, by go_num, by go_num, by omega, by omega, Lib.hid (HS2.out (by omega))⟩
              case measure => simp [intOf]; omega
        · have F27 : Hid (Small Q) := Lib.hid ⟨by omega, fun j hj => HS.out j (by omega)⟩
          clear HS
          by_cases e8a : (1048576 : Int) < (xn : Int)
          · go_wp2
            go_ret
            exact ⟨gs_no rfl, rfl⟩
          by_cases e8b : (1048576 : Int) < (t27 : Int) + (xn : Int)
          · go_wp2
            go_ret
            exact ⟨gs_no rfl, rfl⟩
          by_cases e9a : (1048576 : Int) < (M.length : Int)
          · go_wp2
            go_ret
            exact ⟨gs_no rfl, rfl⟩
          by_cases e9b : (1048576 : Int) < (t27 : Int) + (xn : Int) + (M.length : Int)
          · go_wp2
            go_ret
            exact ⟨gs_no rfl, rfl⟩
          go_wp2
          go_loop [25, 28] (fun v25 v28 => ∃ t k : Nat, v25 = .int .i64 t ∧ v28 = .int .i64 k ∧ (t : Int) ≤ 1048576 ∧ (k : Int) ≤ (M.length : Int) ∧ Hid (∀ j, j < k → (M.getD j ByteArray.empty).size ≤ 1048576)) (fun v25 v28 => M.length - (intOf v28).toNat)
          case atStart => exact ⟨t27 + xn + M.length, 0, by go_num, rfl, by omega, by omega, Lib.hid fun j hj => by omega⟩
          case round =>
            obtain ⟨t28, k, rfl, rfl, ht28, hk, HS⟩ := hrel
            by_cases hlt : (k : Int) < (M.length : Int)
            · obtain ⟨b, off, rfl, hcell⟩ := H9.out (by rintro rfl; simp at hlt; omega)
              have hx := hcell k (by omega)
              obtain ⟨y, hy⟩ : ∃ y, y = M.getD k ByteArray.empty := ⟨_, rfl⟩
              rw [← hy] at hx
              have HS2 : Hid (y.size ≤ 1048576 → ∀ j, j < k + 1 → (M.getD j ByteArray.empty).size ≤ 1048576) := Lib.hid fun h j hj => by
                by_cases e : j = k
                · subst e; rw [← hy]; exact h
                · exact HS.out j (by omega)
              clear hcell hy
              by_cases c1 : (1048576 : Int) < (y.size : Int)
              · go_wp2
                go_ret
                exact ⟨gs_no rfl, rfl⟩
              · by_cases c2 : (1048576 : Int) < (t28 : Int) + (y.size : Int)
                · go_wp2
                  go_ret
                  exact ⟨gs_no rfl, rfl⟩
                · go_wp2
                  go_round
                  case rel => exact ⟨t28 + y.size, k + 1, by go_num, by go_num, by omega, by omega, Lib.hid (HS2.out (by omega))⟩
                  case measure => simp [intOf]; omega
            · have F28 : Hid (Small M) := Lib.hid ⟨by omega, fun j hj => HS.out j (by omega)⟩
              clear HS
              by_cases e10a : (1048576 : Int) < (V.length : Int)
              · go_wp2
                go_ret
                exact ⟨gs_no rfl, rfl⟩
              by_cases e10b : (1048576 : Int) < (t28 : Int) + (V.length : Int)
              · go_wp2
                go_ret
                exact ⟨gs_no rfl, rfl⟩
              go_wp2
              go_loop [25, 29] (fun v25 v29 => ∃ t k : Nat, v25 = .int .i64 t ∧ v29 = .int .i64 k ∧ (t : Int) ≤ 1048576 ∧ (k : Int) ≤ (V.length : Int) ∧ Hid (∀ j, j < k → (V.getD j ByteArray.empty).size ≤ 1048576)) (fun v25 v29 => V.length - (intOf v29).toNat)
              case atStart => exact ⟨t28 + V.length, 0, by go_num, rfl, by omega, by omega, Lib.hid fun j hj => by omega⟩
              case round =>
                obtain ⟨t29, k, rfl, rfl, ht29, hk, HS⟩ := hrel
                by_cases hlt : (k : Int) < (V.length : Int)
                · obtain ⟨b, off, rfl, hcell⟩ := H10.out (by rintro rfl; simp at hlt; omega)
                  have hx := hcell k (by omega)
                  obtain ⟨y, hy⟩ : ∃ y, y = V.getD k ByteArray.empty := ⟨_, rfl⟩
                  rw [← hy] at hx
                  have HS2 : Hid (y.size ≤ 1048576 → ∀ j, j < k + 1 → (V.getD j ByteArray.empty).size ≤ 1048576) := Lib.hid fun h j hj => by
                    by_cases e : j = k
                    · subst e; rw [← hy]; exact h
                    · exact HS.out j (by omega)
                  clear hcell hy
                  by_cases c1 : (1048576 : Int) < (y.size : Int)
                  · go_wp2
                    go_ret
                    exact ⟨gs_no rfl, rfl⟩
                  · by_cases c2 : (1048576 : Int) < (t29 : Int) + (y.size : Int)
                    · go_wp2
                      go_ret
                      exact ⟨gs_no rfl, rfl⟩
                    · go_wp2
                      go_round
                      case rel => exact ⟨t29 + y.size, k + 1, by go_num, by go_num, by omega, by omega, Lib.hid (HS2.out (by omega))⟩
                      case measure => simp [intOf]; omega
                · have F29 : Hid (Small V) := Lib.hid ⟨by omega, fun j hj => HS.out j (by omega)⟩
                  clear HS
                  go_wp2
                  go_ret
                  exact ⟨gs_yes rfl ⟨F26.out, by omega, F27.out, by omega, F28.out, F29.out⟩, rfl⟩

theorem ints32 (a : Option Addr) (n c : Nat) (w : World) (hn : (n : Int) ≤ 1048576) : Calls Tryd.prog 32 #[.slice a n c] w fun e w' => Cnt e ∧ w = w' := by
  go_enter Tryd.func32, Tryd.ntmps32
  go_wp2
  go_ret
  exact ⟨cnt_mk (n := 8 * n) (by go_num) (by omega), rfl⟩

theorem inf3 : ∃ i z, Tryd.prog.info? 3 = some i ∧ i.zero = some z ∧ i.bytes = 8 ∧ i.size = 1 := by
  have h1 : (Tryd.prog.info? 3).map (·.size) = some 1 := by kernel_rfl
  have h2 : (Tryd.prog.info? 3).map (·.bytes) = some 8 := by kernel_rfl
  have h3 : ((Tryd.prog.info? 3).bind (·.zero)).isSome = true := by kernel_rfl
  cases h : Tryd.prog.info? 3 with
  | none => rw [h] at h1; cases h1
  | some i =>
    rw [h] at h1 h2 h3
    cases hz : i.zero with
    | none => simp [hz] at h3
    | some z => exact ⟨i, z, rfl, hz, by simpa using h2, by simpa using h1⟩
theorem make32 (w : World) (n : Nat) (hn : n ≤ 1048576) : ∃ cs : Array Value, cs.size = n ∧ (Instr.makeSlice 32 (.int .i64 (n : Int)) (.int .i64 (n : Int))).run Tryd.prog w = .ok (.slice (some ⟨w.heap.size, 0, none⟩) n n) (w.alloc (.cells cs 3)) := by
  obtain ⟨i, z, h1, h2, h3, h4⟩ := inf3
  have := run_make (P := Tryd.prog) w 32 3 i z Tryd.underlying32 h1 h2 .i64 .i64 n n (by omega) (by omega) (by rw [h3]; omega) (by omega)
  rw [Int.toNat_natCast] at this
  exact ⟨_, by rw [size_madeCells, h4]; omega, this⟩
structure CopyI (X : List Int) (w : World) (g k : Nat) (cs : Array Value) (wr : World) : Prop where
  size : cs.size = X.length
  heap : wr.heap[g]? = some (.cells cs 3)
  done : ∀ j, j < k → cs[j]? = some (.int .i64 (X.getD j 0))
  below : Below w.heap.size w wr
theorem CopyI.step {X : List Int} {w wr : World} {k : Nat} {cs : Array Value} (h : CopyI X w w.heap.size k cs wr) (hk : k < X.length) :
    CopyI X w w.heap.size (k + 1) (cs.setIfInBounds k (.int .i64 (X.getD k 0))) (wr.setCell ⟨w.heap.size, k, none⟩ (.int .i64 (X.getD k 0))) := by
  refine ⟨by simp [h.size], heap_set h.heap k _, fun j hj => ?_, h.below.setCell (Nat.le_refl _) _⟩
  rw [Array.getElem?_setIfInBounds]
  by_cases e : k = j
  · subst e
    rw [if_pos rfl, if_pos (by rw [h.size]; exact hk)]
  · rw [if_neg e]; exact h.done j (by omega)
theorem CopyI.ints {X : List Int} {w wr : World} {cs : Array Value} (h : CopyI X w w.heap.size X.length cs wr) : Ints wr (.slice (some ⟨w.heap.size, 0, none⟩) X.length X.length) X := by
  refine ⟨_, _, rfl, fun _ => ⟨w.heap.size, 0, rfl, (Array.getElem?_eq_some_iff.1 h.heap).1, fun j hj => ?_⟩⟩
  rw [Nat.zero_add]
  exact cell_heap h.heap j _ (h.done j hj)
theorem CopyI.drew {X : List Int} {w wr : World} {g k : Nat} {cs : Array Value} (h : CopyI X w g k cs wr) : CopyI X w g k cs wr.drew := ⟨h.size, h.heap, h.done, h.below.drew⟩

set_option maxRecDepth 20000 in
set_option maxHeartbeats 1000000 in
theorem copy33 (v : Value) (X : List Int) (w : World) (hv : Ints w v X) (hn : X.length ≤ 1048576) :
    Calls Tryd.prog 33 #[v] w fun e w' => (∃ a c, e = .returned (.slice a X.length c) ∧ Ints w' (.slice a X.length c) X) ∧ Below w.heap.size w w' := by
  obtain ⟨a, c, rfl, hc⟩ := hv
  have q32 : ∀ (w : World) (a : Option Addr) (n c n' c' : Nat), (binOp .eql 32 (.slice a n c) (.slice none n' c')).run Tryd.prog w = .ok (.bool a.isNone) w := fun w a n c n' c' => Lib.run_eql_slice_nil w _ _ a n c n' c' Tryd.underlying32
  cases a with
  | none =>
    have hp : X = [] := by
      cases X with
      | nil => rfl
      | cons x P => obtain ⟨b, off, h, _⟩ := hc (by simp); cases h
    subst hp
    clear hc
    go_enter Tryd.func33, Tryd.ntmps33
    go_wp2
    go_ret
    exact ⟨⟨_, _, rfl, ⟨none, 0, rfl, fun h => absurd rfl h⟩⟩, Below.refl _ _⟩
  | some x =>
    obtain ⟨cs, hcs, hmk⟩ := make32 w X.length hn
    have C0 : Hid (CopyI X w w.heap.size 0 cs (w.alloc (.cells cs 3))) := Lib.hid ⟨hcs, by show (w.heap.push _)[w.heap.size]? = _; exact Array.getElem?_push_size, fun j hj => by omega, (Below.refl _ _).alloc (Nat.le_refl _) _⟩
    have hn' : (X.length : Int) ≤ 1048576 := by omega
    generalize hW : w.alloc (.cells cs 3) = W1 at *
    have HC := Lib.hid hc
    clear hW hcs hc
    go_enter Tryd.func33, Tryd.ntmps33
    go_wp2
    go_loopg [4] (X.length) (fun g v4 wr => ∃ (k : Nat) (ck : Array Value), v4 = .int .i64 k ∧ (k : Int) ≤ (X.length : Int) ∧ X.length - k ≤ g ∧ Hid (CopyI X w w.heap.size k ck wr))
    case atStart => exact ⟨0, cs, rfl, by omega, by omega, C0⟩
    case round =>
      clear C0 hmk
      obtain ⟨k, ck, rfl, hk, hg, CK⟩ := hrel
      by_cases hlt : (k : Int) < (X.length : Int)
      · have hkn : k < X.length := by omega
        obtain ⟨bb, off, hxx, hbb, hcell⟩ := HC.out (by rintro rfl; simp at hkn)
        cases hxx
        have hx := hcell k hkn
        rw [← World.cell?_of_block (w := w) (w' := wr) (a := ⟨bb, off + k, none⟩) (CK.out.below.block bb hbb)] at hx
        have hkc : k < ck.size := by rw [CK.out.size]; exact hkn
        have hy : wr.cell? ⟨w.heap.size, k, none⟩ = some ck[k] := cell_heap CK.out.heap k _ (Array.getElem?_eq_getElem hkc)
        have hf : wr.frozen? ⟨w.heap.size, k, none⟩ = false := frozen_heap CK.out.heap k
        have C2 := Lib.hid (CK.out.step hkn)
        generalize hp : X.getD k 0 = p at hx C2
        generalize ck.setIfInBounds k (.int .i64 p) = ck2 at C2
        generalize ck[k] = old at hy
        clear hcell hp CK hkc
        go_wp2
        go_roundg (X.length - (k + 1))
        case measure => omega
        case rel => exact ⟨k + 1, ck2, by go_num, by omega, Nat.le_refl _, (by first | exact C2 | exact Lib.hid C2.out.drew)⟩
      · have hkk : k = X.length := by omega
        have TX : Hid (Ints wr (.slice (some ⟨w.heap.size, 0, none⟩) X.length X.length) X) := Lib.hid (by have h := CK.out; rw [hkk] at h; exact h.ints)
        have BW := Lib.hid CK.out.below
        clear CK HC hkk
        go_wp2
        go_ret
        exact ⟨⟨_, _, rfl, TX.out⟩, BW.out⟩

set_option maxRecDepth 20000 in
set_option maxHeartbeats 4000000 in
theorem eq34s (a : Option Addr) (c : Nat) (P : List ByteArray) (w : World) (hn : (P.length : Int) ≤ 1048576) (hc : P ≠ [] → ∃ b off, a = some ⟨b, off, none⟩ ∧ ∀ j, j < P.length → w.cell? ⟨b, off + j, none⟩ = some (.string (P.getD j ByteArray.empty))) :
    Calls Tryd.prog 34 #[.slice a P.length c, .slice a P.length c] w fun e w' => e = .returned (.bool true) ∧ ∃ n, w' = w.drewN n := by
  have q22 : ∀ (w : World) (a : Option Addr) (n c n' c' : Nat), (binOp .eql 22 (.slice a n c) (.slice none n' c')).run Tryd.prog w = .ok (.bool a.isNone) w := fun w a n c n' c' => Lib.run_eql_slice_nil w _ _ a n c n' c' Tryd.underlying22
  have HC := Lib.hid hc
  clear hc
  go_enter Tryd.func34, Tryd.ntmps34
  go_wp2
  go_loopg [5] (P.length) (fun g v5 wr => ∃ k : Nat, v5 = .int .i64 k ∧ (k : Int) ≤ (P.length : Int) ∧ P.length - k ≤ g ∧ Hid (∃ n, wr = w.drewN n))
  case atStart => exact ⟨0, rfl, by omega, by omega, Lib.hid ⟨0, rfl⟩⟩
  case round =>
    obtain ⟨k, rfl, hk, hg, DR⟩ := hrel
    obtain ⟨n, rfl⟩ := DR.out
    clear DR
    by_cases hlt : (k : Int) < (P.length : Int)
    · obtain ⟨b, off, rfl, hcell⟩ := HC.out (by rintro rfl; simp at hlt; omega)
      have hx : w.cell? ⟨b, off + k, none⟩ = some (.string (P.getD k ByteArray.empty)) := hcell k (by omega)
      generalize P.getD k ByteArray.empty = y at hx
      have qy : (y.toList == y.toList) = true := by simp
      clear hcell
      go_wp2
      go_region
      go_wp2
      go_roundg (P.length - (k + 1))
      case measure => omega
      case rel => exact ⟨k + 1, by go_num, by omega, Nat.le_refl _, Lib.hid ⟨n + 1, rfl⟩⟩
    · go_wp2
      go_ret
      exact ⟨rfl, n, rfl⟩

set_option maxRecDepth 20000 in
set_option maxHeartbeats 4000000 in
theorem eq35s (a : Option Addr) (c : Nat) (X : List Int) (w : World) (hn : (X.length : Int) ≤ 1048576) (hc : X ≠ [] → ∃ b off, a = some ⟨b, off, none⟩ ∧ b < w.heap.size ∧ ∀ j, j < X.length → w.cell? ⟨b, off + j, none⟩ = some (.int .i64 (X.getD j 0))) :
    Calls Tryd.prog 35 #[.slice a X.length c, .slice a X.length c] w fun e w' => e = .returned (.bool true) ∧ ∃ n, w' = w.drewN n := by
  have q32 : ∀ (w : World) (a : Option Addr) (n c n' c' : Nat), (binOp .eql 32 (.slice a n c) (.slice none n' c')).run Tryd.prog w = .ok (.bool a.isNone) w := fun w a n c n' c' => Lib.run_eql_slice_nil w _ _ a n c n' c' Tryd.underlying32
  have HC := Lib.hid hc
  clear hc
  go_enter Tryd.func35, Tryd.ntmps35
  go_wp2
  go_loopg [5] (X.length) (fun g v5 wr => ∃ k : Nat, v5 = .int .i64 k ∧ (k : Int) ≤ (X.length : Int) ∧ X.length - k ≤ g ∧ Hid (∃ n, wr = w.drewN n))
  case atStart => exact ⟨0, rfl, by omega, by omega, Lib.hid ⟨0, rfl⟩⟩
  case round =>
    obtain ⟨k, rfl, hk, hg, DR⟩ := hrel
    obtain ⟨n, rfl⟩ := DR.out
    clear DR
    by_cases hlt : (k : Int) < (X.length : Int)
    · obtain ⟨b, off, rfl, _, hcell⟩ := HC.out (by rintro rfl; simp at hlt; omega)
      have hx : w.cell? ⟨b, off + k, none⟩ = some (.int .i64 (X.getD k 0)) := hcell k (by omega)
      generalize X.getD k 0 = y at hx
      clear hcell
      go_wp2
      go_region
      go_wp2
      go_roundg (X.length - (k + 1))
      case measure => omega
      case rel => exact ⟨k + 1, by go_num, by omega, Nat.le_refl _, Lib.hid ⟨n + 1, rfl⟩⟩
    · go_wp2
      go_ret
      exact ⟨rfl, n, rfl⟩

/-- the last of the first k values whose key is q -/
def lastB (M V : List ByteArray) (q : ByteArray) : Nat → ByteArray
  | 0 => ⟨#[]⟩
  | k + 1 => if ((M.getD k ByteArray.empty).toList == q.toList) = true then V.getD k ByteArray.empty else lastB M V q k
/-- the map of the first k pairs -/
def lastM (M V : List ByteArray) : Nat → List UInt8 → Option (List UInt8)
  | 0 => fun _ => none
  | k + 1 => fun q => if q = (M.getD k ByteArray.empty).data.toList then some (V.getD k ByteArray.empty).data.toList else lastM M V k q
theorem lastM_some (M V : List ByteArray) (q : ByteArray) : ∀ k v, lastM M V k q.data.toList = some v → lastB M V q k = ⟨v.toArray⟩
  | 0, v, h => by cases h
  | k + 1, v, h => by
    unfold lastM at h
    unfold lastB
    by_cases e : q.data.toList = (M.getD k ByteArray.empty).data.toList
    · rw [if_pos e] at h
      rw [if_pos (by simp [ByteArray.toList_eq, e])]
      rw [← Option.some.inj h]
    · rw [if_neg e] at h
      rw [if_neg (fun h => e (by have h2 := eq_of_beq h; rw [ByteArray.toList_eq, ByteArray.toList_eq] at h2; exact h2.symm))]
      exact lastM_some M V q k v h
theorem lastM_isSome (M V : List ByteArray) (i : Nat) : ∀ k, i < k → (lastM M V k (M.getD i ByteArray.empty).data.toList).isSome = true
  | 0, h => by omega
  | k + 1, h => by
    unfold lastM
    by_cases e : (M.getD i ByteArray.empty).data.toList = (M.getD k ByteArray.empty).data.toList
    · simp only [if_pos e]; rfl
    · simp only [if_neg e]
      exact lastM_isSome M V i k (by
        have : i ≠ k := fun h => e (by rw [h])
        omega)

set_option maxRecDepth 20000 in
set_option maxHeartbeats 4000000 in
theorem last36 (a9 a10 : Option Addr) (c9 c10 : Nat) (M V : List ByteArray) (n : Nat) (q : ByteArray) (w : World) (hm : n ≤ M.length) (hv : n ≤ V.length) (hn : (n : Int) ≤ 1048576)
    (h9 : M ≠ [] → ∃ b off, a9 = some ⟨b, off, none⟩ ∧ ∀ j, j < M.length → w.cell? ⟨b, off + j, none⟩ = some (.string (M.getD j ByteArray.empty))) (h10 : V ≠ [] → ∃ b off, a10 = some ⟨b, off, none⟩ ∧ ∀ j, j < V.length → w.cell? ⟨b, off + j, none⟩ = some (.string (V.getD j ByteArray.empty))) :
    Calls Tryd.prog 36 #[.slice a9 M.length c9, .slice a10 V.length c10, .int .i64 n, .string q] w fun e w' => e = .returned (.string (lastB M V q n)) ∧ w' = w := by
  have H9 := Lib.hid h9
  have H10 := Lib.hid h10
  clear h9 h10
  go_enter Tryd.func36, Tryd.ntmps36
  go_wp2
  go_loop [9, 10] (fun v9 v10 => ∃ (k : Nat) (y : ByteArray), v9 = .string y ∧ v10 = .int .i64 k ∧ (k : Int) ≤ (n : Int) ∧ Hid (y = lastB M V q k)) (fun v9 v10 => n - (intOf v10).toNat)
  case atStart => exact ⟨0, _, rfl, rfl, by omega, Lib.hid rfl⟩
  case round =>
    obtain ⟨k, y, rfl, rfl, hk, HY⟩ := hrel
    by_cases hlt : (k : Int) < (n : Int)
    · obtain ⟨b, off, rfl, hcell⟩ := H9.out (by rintro rfl; simp at hm; omega)
      have hx := hcell k (by omega)
      obtain ⟨b2, off2, rfl, hcell2⟩ := H10.out (by rintro rfl; simp at hv; omega)
      have hx2 := hcell2 k (by omega)
      have hk1 : (k : Int) < (M.length : Int) := by omega
      have hk2 : (k : Int) < (V.length : Int) := by omega
      have ST : Hid (lastB M V q (k + 1) = if ((M.getD k ByteArray.empty).toList == q.toList) = true then V.getD k ByteArray.empty else lastB M V q k) := Lib.hid rfl
      generalize M.getD k ByteArray.empty = mk at hx ST
      generalize V.getD k ByteArray.empty = mv at hx2 ST
      clear hcell hcell2
      by_cases e : (mk.toList == q.toList) = true
      · go_wp2
        go_round
        case rel => exact ⟨k + 1, mv, rfl, by go_num, by omega, Lib.hid (by rw [ST.out, if_pos e])⟩
        case measure => simp [intOf]; omega
      · have e2 : (mk.toList == q.toList) = false := by simpa using e
        go_wp2
        go_round
        case rel => exact ⟨k + 1, y, rfl, by go_num, by omega, Lib.hid (by rw [ST.out, if_neg e, HY.out])⟩
        case measure => simp [intOf]; omega
    · obtain rfl : k = n := by omega
      have R := Lib.hid HY.out
      go_wp2
      go_ret
      exact ⟨congrArg (fun b => Ending.returned (Value.string b)) R.out, rfl⟩

theorem SMap.size2 {w : World} {b n : Nat} {f : List UInt8 → Option (List UInt8)} (h : SMap w b n f) : ∃ m : Nat, m ≤ n ∧ ∀ (W : World) (ty : TypeId), W.heap[b]? = w.heap[b]? → (Builtin.len_ #[31] ty #[.map (some b)]).run Tryd.prog W = .ok (.int .i64 m) W := by
  obtain ⟨D, ho, hi, hf⟩ := h
  exact ⟨_, ho.size_le, fun W ty e => (show W.ownsMap Tryd.prog 9 (plainElem Tryd.prog 9) b n D by obtain ⟨es, cl, h1, h2⟩ := ho; exact ⟨es, cl, e.trans h1, h2⟩).len Tryd.underlying31 ty⟩
theorem below_grown5 {B : Nat} {w1 w w' : World} (h : Below B w1 w) {b : Nat} (hB : B ≤ w1.heap.size) (hb : B ≤ b) (g : w.grownBy w' (some b)) : Below B w1 w' :=
  ⟨g.os.trans h.os, g.tape.trans h.tape, g.output.trans h.output, Nat.le_trans h.size g.size, fun i hi => (g.block i (by have := h.size; omega) (fun e => by injection e with e; omega)).trans (h.block i hi)⟩
structure MapAt (M V : List ByteArray) (bm k : Nat) (w1 w : World) : Prop where
  map : SMap w bm k (lastM M V k)
  below : Below w1.heap.size w1 w
theorem drewN_add5 (w : World) (a b : Nat) : (w.drewN a).drewN b = w.drewN (a + b) := by
  unfold World.drewN; simp [Nat.add_assoc]
def Ret5 (w : World) (e : Ending) (w' : World) : Prop := e = .returned (.bool true) ∧ Below w.heap.size w w'

set_option maxRecDepth 20000 in
set_option maxHeartbeats 16000000 in
theorem law5 (a0 : Option Addr) (c0 : Nat) (P : List ByteArray) (b1 b2 b3 b4 : Bool) (k : Nat) (s : ByteArray) (a7 : Option Addr) (c7 : Nat) (Q : List ByteArray) (a8 : Option Addr) (c8 : Nat) (X : List Int) (a9 : Option Addr) (c9 : Nat) (M : List ByteArray) (a10 : Option Addr) (c10 : Nat) (V : List ByteArray) (b11 : Bool) (w : World)
    (h0 : Texts w (.slice a0 P.length c0) P) (h7 : Texts w (.slice a7 Q.length c7) Q) (h8 : Ints w (.slice a8 X.length c8) X) (h9 : Texts w (.slice a9 M.length c9) M) (h10 : Texts w (.slice a10 V.length c10) V) (hk : k ≤ 255) :
    Calls Tryd.prog 5 #[.slice a0 P.length c0, .bool b1, .bool b2, .bool b3, .bool b4, .int .u8 k, .string s, .slice a7 Q.length c7, .slice a8 X.length c8, .slice a9 M.length c9, .slice a10 V.length c10, .bool b11] w fun e w' => Ret5 w e w' := by
  have q31 : ∀ (w : World) (r : Option Nat), (binOp .eql 31 (.map r) (.map none)).run Tryd.prog w = .ok (.bool r.isNone) w := fun w r => run_eql_map_nil w _ _ _ r Tryd.underlying31
  have B31 := Lib.hid (bytes31 a0 a7 a9 a10 c0 c7 c9 c10 P Q M V a8 X.length c8 s b1 b2 b3 b4 b11 k w (texts_cellsX h0) (texts_cellsX h7) (texts_cellsX h9) (texts_cellsX h10))
  have H0 := Lib.hid h0
  have H7 := Lib.hid h7
  have H8 := Lib.hid h8
  have H9 := Lib.hid h9
  have H10 := Lib.hid h10
  have HK := Lib.hid hk
  clear h0 h7 h8 h9 h10 hk
  go_enter Tryd.func5, Tryd.ntmps5
  go_wp2_with (go_at_call 31; refine B31.out.mono ?_; rintro e w' ⟨⟨b, rfl, hb⟩, rfl⟩; have HB := Lib.hid hb; clear hb B31)
  · go_ret; exact ⟨rfl, Below.refl _ _⟩
  have hb1 : (!b) = false := by assumption
  have HS := Lib.hid (HB.out (by simpa using hb1))
  clear HB hb1
  have hs : (s.size : Int) ≤ 1048576 := by have := HS.out.2.1; omega
  have S0 := Lib.hid (strs16 a0 c0 P w HS.out.1 (texts_cellsX H0.out))
  have S7 := Lib.hid (strs16 a7 c7 Q w HS.out.2.2.1 (texts_cellsX H7.out))
  have S9 := Lib.hid (strs16 a9 c9 M w HS.out.2.2.2.2.1 (texts_cellsX H9.out))
  have S10 := Lib.hid (strs16 a10 c10 V w HS.out.2.2.2.2.2 (texts_cellsX H10.out))
  have S8 := Lib.hid (ints32 a8 X.length c8 w (by have := HS.out.2.2.2.1; omega))
  go_wp2_with (fail)
  refine S0.out.mono ?_
  rintro e w' ⟨⟨n0, rfl, hn0⟩, rfl⟩
  go_wp2_with (fail)
  refine S7.out.mono ?_
  rintro e w' ⟨⟨n7, rfl, hn7⟩, rfl⟩
  go_wp2_with (fail)
  refine S8.out.mono ?_
  rintro e w' ⟨⟨n8, rfl, hn8⟩, rfl⟩
  go_wp2_with (fail)
  refine S9.out.mono ?_
  rintro e w' ⟨⟨n9, rfl, hn9⟩, rfl⟩
  go_wp2_with (fail)
  refine S10.out.mono ?_
  rintro e w' ⟨⟨n10, rfl, hn10⟩, rfl⟩
  clear S0 S7 S8 S9 S10
  by_cases hk2 : (k : Int) = 2
  · go_wp2_with (fail)
    all_goals (go_ret; exact ⟨rfl, Below.refl _ _⟩)
  go_wp2_with (fail)
  all_goals (try (go_ret; exact ⟨rfl, Below.refl _ _⟩))
  have R20 := Lib.hid fun (mr : Option Nat) (xa xb : Option Addr) (ln xn lc xc : Nat) (iv : Value) (W : World) => res20_id b1 b2 b3 b4 k s xa ln lc mr xb xn xc iv W HK.out (by omega)
  refine (copy18 _ P w H0.out HS.out.1.1).mono ?_
  rintro e w1 ⟨⟨v', rfl, hT⟩, hB1⟩
  obtain ⟨p0, d0, hv', hc'⟩ := hT
  subst hv'
  have T0 : Hid (Texts w1 (.slice p0 P.length d0) P) := Lib.hid ⟨p0, d0, rfl, hc'⟩
  have B1 := Lib.hid hB1
  clear hc' hB1 H0
  go_wp2_with (fail)
  refine (copy18 _ Q w1 (texts_below H7.out B1.out) HS.out.2.2.1.1).mono ?_
  rintro e w2 ⟨⟨v', rfl, hT⟩, hB⟩
  obtain ⟨p2, d2, hv', hc'⟩ := hT
  subst hv'
  have T2 : Hid (Texts w2 (.slice p2 Q.length d2) Q) := Lib.hid ⟨p2, d2, rfl, hc'⟩
  clear hc'
  have G2 := Lib.hid hB
  have B2 : Hid (Below w.heap.size w w2) := Lib.hid (B1.out.trans (hB.mono B1.out.size))
  clear hB H7
  go_wp2_with (fail)
  refine (copy33 _ X w2 (ints_below H8.out B2.out) HS.out.2.2.2.1).mono ?_
  rintro e w3 ⟨⟨p3, d3, rfl, hT⟩, hB⟩
  have T3 := Lib.hid hT
  have G3 := Lib.hid hB
  have B3 : Hid (Below w.heap.size w w3) := Lib.hid (B2.out.trans (hB.mono B2.out.size))
  clear hB H8 hT
  go_wp2_with (fail)
  refine (copy18 _ M w3 (texts_below H9.out B3.out) HS.out.2.2.2.2.1.1).mono ?_
  rintro e w4 ⟨⟨v', rfl, hT⟩, hB⟩
  obtain ⟨p4, d4, hv', hc'⟩ := hT
  subst hv'
  have T4 : Hid (Texts w4 (.slice p4 M.length d4) M) := Lib.hid ⟨p4, d4, rfl, hc'⟩
  clear hc'
  have G4 := Lib.hid hB
  have B4 : Hid (Below w.heap.size w w4) := Lib.hid (B3.out.trans (hB.mono B3.out.size))
  clear hB H9
  go_wp2_with (fail)
  refine (copy18 _ V w4 (texts_below H10.out B4.out) HS.out.2.2.2.2.2.1).mono ?_
  rintro e w5 ⟨⟨v', rfl, hT⟩, hB⟩
  obtain ⟨p5, d5, hv', hc'⟩ := hT
  subst hv'
  have T5 : Hid (Texts w5 (.slice p5 V.length d5) V) := Lib.hid ⟨p5, d5, rfl, hc'⟩
  clear hc'
  have G5 := Lib.hid hB
  have B5 : Hid (Below w.heap.size w w5) := Lib.hid (B4.out.trans (hB.mono B4.out.size))
  clear hB H10
  have G3b : Hid (Below w3.heap.size w3 w5) := Lib.hid (G4.out.trans (G5.out.mono G4.out.size))
  have G2b : Hid (Below w2.heap.size w2 w5) := Lib.hid (G3.out.trans (G3b.out.mono G3.out.size))
  have G1b : Hid (Below w1.heap.size w1 w5) := Lib.hid (G2.out.trans (G2b.out.mono G2.out.size))
  have U0 := Lib.hid (texts_below T0.out G1b.out)
  have U7 := Lib.hid (texts_below T2.out G2b.out)
  have U8 := Lib.hid (ints_below T3.out G3b.out)
  have U9 := Lib.hid (texts_below T4.out G5.out)
  have U10 := T5
  clear T0 T2 T3 T4 T5 G1b G2b G3b G2 G3 G4 G5 B1 B2 B3 B4
  have hm : (M.length : Int) ≤ 1048576 := by have := HS.out.2.2.2.2.1.1; omega
  have hv : (V.length : Int) ≤ 1048576 := by have := HS.out.2.2.2.2.2.1; omega
  have hq : (Q.length : Int) ≤ 1048576 := by have := HS.out.2.2.1.1; omega
  have hx : (X.length : Int) ≤ 1048576 := by have := HS.out.2.2.2.1; omega
  have E19 := Lib.hid fun (W : World) (hW : Below w5.heap.size w5 W) => env19 _ P W (texts_below U0.out hW) (fun s hs => by have := small_mem HS.out.1 s hs; omega) HS.out.1.1
  have hmm := @run_makeMap Tryd.prog
  by_cases hmv : (V.length : Int) < (M.length : Int)
  · cases b11 with
    | true =>
      clear hmm
      go_wp2_with (fail)
      refine (E19.out w5 (Below.refl _ _)).mono ?_
      rintro e w6 ⟨sv, R, rfl, _, hB6, _⟩
      have G6 : Hid (Below w5.heap.size w5 w6) := Lib.hid (hB6)
      clear hB6
      have RES : Hid (∀ W : World, Calls Tryd.prog 20 #[.agg #[.bool b1, .bool b2, .bool b3, .bool b4, .int .u8 k, .string s, .slice p2 Q.length d2, .map none, .slice p3 X.length d3], .iface 97 (.agg #[.bool false, sv])] W fun e w' => e = .returned (.tuple #[.string ⟨#[]⟩, .agg #[.bool b1, .bool b2, .bool b3, .bool b4, .int .u8 k, .string s, .slice p2 Q.length d2, .map none, .slice p3 X.length d3]]) ∧ Below W.heap.size W w') := Lib.hid fun W => R20.out none p2 p3 Q.length X.length d2 d3 _ W
      have S34 := Lib.hid fun (W : World) (hW : Below w5.heap.size w5 W) => eq34s p2 d2 Q W hq (texts_cellsX (texts_below U7.out hW))
      have S35 := Lib.hid fun (W : World) (hW : Below w5.heap.size w5 W) => eq35s p3 d3 X W hx (ints_cells (ints_below U8.out hW))
      clear R20
      have qs : (s.toList == s.toList) = true := by simp
      go_wp2_with (first | (go_at_call 20; refine (RES.out _).mono ?_; rintro e w7 ⟨rfl, hb7⟩; have G7 : Hid (Below w5.heap.size w5 w7) := Lib.hid ((G6.out.alloc G6.out.size _).trans (hb7.mono (by have := G6.out.size; simp; omega))); clear hb7 RES; have NB : Hid ((w7.alloc (.cells #[.bool b1, .bool b2, .bool b3, .bool b4, .int .u8 k, .string s, .slice p2 Q.length d2, .map none, .slice p3 X.length d3] 34)).heap[w7.heap.size]? = some (.cells #[.bool b1, .bool b2, .bool b3, .bool b4, .int .u8 k, .string s, .slice p2 Q.length d2, .map none, .slice p3 X.length d3] 34)) := Lib.hid Array.getElem?_push_size; have GA : Hid (Below w5.heap.size w5 (w7.alloc (.cells #[.bool b1, .bool b2, .bool b3, .bool b4, .int .u8 k, .string s, .slice p2 Q.length d2, .map none, .slice p3 X.length d3] 34))) := Lib.hid (G7.out.alloc G7.out.size _); have r0 : (w7.alloc (.cells #[.bool b1, .bool b2, .bool b3, .bool b4, .int .u8 k, .string s, .slice p2 Q.length d2, .map none, .slice p3 X.length d3] 34)).cell? ⟨w7.heap.size, 0, none⟩ = some (.bool b1) := cell_heap NB.out 0 _ rfl; have r1 : (w7.alloc (.cells #[.bool b1, .bool b2, .bool b3, .bool b4, .int .u8 k, .string s, .slice p2 Q.length d2, .map none, .slice p3 X.length d3] 34)).cell? ⟨w7.heap.size, 1, none⟩ = some (.bool b2) := cell_heap NB.out 1 _ rfl; have r2 : (w7.alloc (.cells #[.bool b1, .bool b2, .bool b3, .bool b4, .int .u8 k, .string s, .slice p2 Q.length d2, .map none, .slice p3 X.length d3] 34)).cell? ⟨w7.heap.size, 2, none⟩ = some (.bool b3) := cell_heap NB.out 2 _ rfl; have r3 : (w7.alloc (.cells #[.bool b1, .bool b2, .bool b3, .bool b4, .int .u8 k, .string s, .slice p2 Q.length d2, .map none, .slice p3 X.length d3] 34)).cell? ⟨w7.heap.size, 3, none⟩ = some (.bool b4) := cell_heap NB.out 3 _ rfl; have r4 : (w7.alloc (.cells #[.bool b1, .bool b2, .bool b3, .bool b4, .int .u8 k, .string s, .slice p2 Q.length d2, .map none, .slice p3 X.length d3] 34)).cell? ⟨w7.heap.size, 4, none⟩ = some (.int .u8 k) := cell_heap NB.out 4 _ rfl; have r5 : (w7.alloc (.cells #[.bool b1, .bool b2, .bool b3, .bool b4, .int .u8 k, .string s, .slice p2 Q.length d2, .map none, .slice p3 X.length d3] 34)).cell? ⟨w7.heap.size, 5, none⟩ = some (.string s) := cell_heap NB.out 5 _ rfl; have r6 : (w7.alloc (.cells #[.bool b1, .bool b2, .bool b3, .bool b4, .int .u8 k, .string s, .slice p2 Q.length d2, .map none, .slice p3 X.length d3] 34)).cell? ⟨w7.heap.size, 6, none⟩ = some (.slice p2 Q.length d2) := cell_heap NB.out 6 _ rfl; have r7 : (w7.alloc (.cells #[.bool b1, .bool b2, .bool b3, .bool b4, .int .u8 k, .string s, .slice p2 Q.length d2, .map none, .slice p3 X.length d3] 34)).cell? ⟨w7.heap.size, 7, none⟩ = some (.map none) := cell_heap NB.out 7 _ rfl; have r8 : (w7.alloc (.cells #[.bool b1, .bool b2, .bool b3, .bool b4, .int .u8 k, .string s, .slice p2 Q.length d2, .map none, .slice p3 X.length d3] 34)).cell? ⟨w7.heap.size, 8, none⟩ = some (.slice p3 X.length d3) := cell_heap NB.out 8 _ rfl) | (go_at_call 34; refine (S34.out _ GA.out).mono ?_; rintro e w8 ⟨rfl, n1, rfl⟩; clear S34) | (go_at_call 35; refine (S35.out _ (below_drewX GA.out n1)).mono ?_; rintro e w9 ⟨rfl, n2, rfl⟩; clear S35))
      go_ret
      exact ⟨rfl, below_drewX (B5.out.trans (GA.out.mono B5.out.size)) _⟩
    | false =>
      have M0 : Hid (MapAt M V w5.heap.size 0 w5 (w5.alloc (.map #[] 0))) := Lib.hid ⟨smap_made w5, (Below.refl _ _).alloc (Nat.le_refl _) _⟩
      go_wp2_with (fail)
      clear hmm
      generalize hW : w5.alloc (.map #[] 0) = W2 at M0 ⊢
      clear hW
      go_loopg [27] (V.length) (fun g v27 wr => ∃ i : Nat, v27 = .int .i64 i ∧ (i : Int) ≤ (V.length : Int) ∧ V.length - i ≤ g ∧ Hid (MapAt M V w5.heap.size i w5 wr))
      case atStart => exact ⟨0, rfl, by omega, by omega, M0⟩
      case round =>
        clear M0
        obtain ⟨i, rfl, hi, hg, MT⟩ := hrel
        by_cases hlt : (i : Int) < (V.length : Int)
        · have him : i < M.length := by omega
          have hiv : i < V.length := by omega
          have him' : (i : Int) < (M.length : Int) := by omega
          have hiv' : (i : Int) < (V.length : Int) := by omega
          obtain ⟨x1, o1, rfl, hc1⟩ := texts_cellsX (texts_below U9.out MT.out.below) (by rintro rfl; simp at him)
          obtain ⟨x2, o2, rfl, hc2⟩ := texts_cellsX (texts_below U10.out MT.out.below) (by rintro rfl; simp at hiv)
          have hx1 := hc1 i him
          have hx2 := hc2 i hiv
          have z1 := HS.out.2.2.2.2.1.2 i him
          have z2 := HS.out.2.2.2.2.2.2 i hiv
          obtain ⟨W3, hput, hSM, hgr⟩ := (MT.out.map.kept (w' := wr.drew) rfl).put (by unfold maxLen; omega) (M.getD i ByteArray.empty) (V.getD i ByteArray.empty) (by unfold maxLen; omega) (by unfold maxLen; omega)
          have M2 : Hid (MapAt M V w5.heap.size (i + 1) w5 W3) := Lib.hid ⟨hSM, below_grown5 MT.out.below.drew (Nat.le_refl _) (Nat.le_refl _) hgr⟩
          generalize M.getD i ByteArray.empty = mk at hx1 hput z1
          generalize V.getD i ByteArray.empty = mv at hx2 hput z2
          clear hc1 hc2 hSM hgr MT
          go_wp2
          go_region
          all_goals go_wp2
          all_goals go_roundg (V.length - (i + 1))
          case measure => omega
          case rel => exact ⟨i + 1, by go_num, by omega, Nat.le_refl _, M2⟩
        · obtain rfl : i = V.length := by omega
          have SM := Lib.hid MT.out.map
          have BW := Lib.hid MT.out.below
          obtain ⟨m, _, hln⟩ := SM.out.size2
          have LEN := Lib.hid hln
          clear MT hln hi hlt hg
          go_wp2_with (fail)
          refine (E19.out wr BW.out).mono ?_
          rintro e w6 ⟨sv, R, rfl, _, hB6, _⟩
          have G6 : Hid (Below w5.heap.size w5 w6) := Lib.hid ((BW.out.trans (hB6.mono BW.out.size)))
          have MB6 : Hid (w6.heap[w5.heap.size]? = wr.heap[w5.heap.size]? ∧ w5.heap.size < w6.heap.size) := Lib.hid ⟨hB6.block _ SM.out.lt, Nat.lt_of_lt_of_le SM.out.lt hB6.size⟩
          clear hB6
          have RES : Hid (∀ W : World, Calls Tryd.prog 20 #[.agg #[.bool b1, .bool b2, .bool b3, .bool b4, .int .u8 k, .string s, .slice p2 Q.length d2, .map (some w5.heap.size), .slice p3 X.length d3], .iface 97 (.agg #[.bool false, sv])] W fun e w' => e = .returned (.tuple #[.string ⟨#[]⟩, .agg #[.bool b1, .bool b2, .bool b3, .bool b4, .int .u8 k, .string s, .slice p2 Q.length d2, .map (some w5.heap.size), .slice p3 X.length d3]]) ∧ Below W.heap.size W w') := Lib.hid fun W => R20.out (some w5.heap.size) p2 p3 Q.length X.length d2 d3 _ W
          have S34 := Lib.hid fun (W : World) (hW : Below w5.heap.size w5 W) => eq34s p2 d2 Q W hq (texts_cellsX (texts_below U7.out hW))
          have S35 := Lib.hid fun (W : World) (hW : Below w5.heap.size w5 W) => eq35s p3 d3 X W hx (ints_cells (ints_below U8.out hW))
          clear R20
          have qs : (s.toList == s.toList) = true := by simp
          go_wp2_with (first | (go_at_call 20; refine (RES.out _).mono ?_; rintro e w7 ⟨rfl, hb7⟩; have G7 : Hid (Below w5.heap.size w5 w7) := Lib.hid ((G6.out.alloc G6.out.size _).trans (hb7.mono (by have := G6.out.size; simp; omega))); have MB7 : Hid (w7.heap[w5.heap.size]? = wr.heap[w5.heap.size]? ∧ w5.heap.size < w7.heap.size) := Lib.hid ⟨(hb7.block _ (by have := MB6.out.2; simp; omega)).trans ((Below.heap_alloc _ _ _ MB6.out.2).trans MB6.out.1), by have h1 := MB6.out.2; have h2 := hb7.size; simp at h2; omega⟩; clear hb7 RES; have NB : Hid ((w7.alloc (.cells #[.bool b1, .bool b2, .bool b3, .bool b4, .int .u8 k, .string s, .slice p2 Q.length d2, .map (some w5.heap.size), .slice p3 X.length d3] 34)).heap[w7.heap.size]? = some (.cells #[.bool b1, .bool b2, .bool b3, .bool b4, .int .u8 k, .string s, .slice p2 Q.length d2, .map (some w5.heap.size), .slice p3 X.length d3] 34)) := Lib.hid Array.getElem?_push_size; have GA : Hid (Below w5.heap.size w5 (w7.alloc (.cells #[.bool b1, .bool b2, .bool b3, .bool b4, .int .u8 k, .string s, .slice p2 Q.length d2, .map (some w5.heap.size), .slice p3 X.length d3] 34))) := Lib.hid (G7.out.alloc G7.out.size _); have r0 : (w7.alloc (.cells #[.bool b1, .bool b2, .bool b3, .bool b4, .int .u8 k, .string s, .slice p2 Q.length d2, .map (some w5.heap.size), .slice p3 X.length d3] 34)).cell? ⟨w7.heap.size, 0, none⟩ = some (.bool b1) := cell_heap NB.out 0 _ rfl; have r1 : (w7.alloc (.cells #[.bool b1, .bool b2, .bool b3, .bool b4, .int .u8 k, .string s, .slice p2 Q.length d2, .map (some w5.heap.size), .slice p3 X.length d3] 34)).cell? ⟨w7.heap.size, 1, none⟩ = some (.bool b2) := cell_heap NB.out 1 _ rfl; have r2 : (w7.alloc (.cells #[.bool b1, .bool b2, .bool b3, .bool b4, .int .u8 k, .string s, .slice p2 Q.length d2, .map (some w5.heap.size), .slice p3 X.length d3] 34)).cell? ⟨w7.heap.size, 2, none⟩ = some (.bool b3) := cell_heap NB.out 2 _ rfl; have r3 : (w7.alloc (.cells #[.bool b1, .bool b2, .bool b3, .bool b4, .int .u8 k, .string s, .slice p2 Q.length d2, .map (some w5.heap.size), .slice p3 X.length d3] 34)).cell? ⟨w7.heap.size, 3, none⟩ = some (.bool b4) := cell_heap NB.out 3 _ rfl; have r4 : (w7.alloc (.cells #[.bool b1, .bool b2, .bool b3, .bool b4, .int .u8 k, .string s, .slice p2 Q.length d2, .map (some w5.heap.size), .slice p3 X.length d3] 34)).cell? ⟨w7.heap.size, 4, none⟩ = some (.int .u8 k) := cell_heap NB.out 4 _ rfl; have r5 : (w7.alloc (.cells #[.bool b1, .bool b2, .bool b3, .bool b4, .int .u8 k, .string s, .slice p2 Q.length d2, .map (some w5.heap.size), .slice p3 X.length d3] 34)).cell? ⟨w7.heap.size, 5, none⟩ = some (.string s) := cell_heap NB.out 5 _ rfl; have r6 : (w7.alloc (.cells #[.bool b1, .bool b2, .bool b3, .bool b4, .int .u8 k, .string s, .slice p2 Q.length d2, .map (some w5.heap.size), .slice p3 X.length d3] 34)).cell? ⟨w7.heap.size, 6, none⟩ = some (.slice p2 Q.length d2) := cell_heap NB.out 6 _ rfl; have r7 : (w7.alloc (.cells #[.bool b1, .bool b2, .bool b3, .bool b4, .int .u8 k, .string s, .slice p2 Q.length d2, .map (some w5.heap.size), .slice p3 X.length d3] 34)).cell? ⟨w7.heap.size, 7, none⟩ = some (.map (some w5.heap.size)) := cell_heap NB.out 7 _ rfl; have r8 : (w7.alloc (.cells #[.bool b1, .bool b2, .bool b3, .bool b4, .int .u8 k, .string s, .slice p2 Q.length d2, .map (some w5.heap.size), .slice p3 X.length d3] 34)).cell? ⟨w7.heap.size, 8, none⟩ = some (.slice p3 X.length d3) := cell_heap NB.out 8 _ rfl) | (go_at_call 34; refine (S34.out _ GA.out).mono ?_; rintro e w8 ⟨rfl, n1, rfl⟩; clear S34) | (go_at_call 35; refine (S35.out _ (below_drewX GA.out n1)).mono ?_; rintro e w9 ⟨rfl, n2, rfl⟩; clear S35; have hlen := fun (n : Nat) (ty : TypeId) => LEN.out ((w7.alloc (.cells #[.bool b1, .bool b2, .bool b3, .bool b4, .int .u8 k, .string s, .slice p2 Q.length d2, .map (some w5.heap.size), .slice p3 X.length d3] 34)).drewN n) ty (by show (w7.alloc (.cells #[.bool b1, .bool b2, .bool b3, .bool b4, .int .u8 k, .string s, .slice p2 Q.length d2, .map (some w5.heap.size), .slice p3 X.length d3] 34)).heap[w5.heap.size]? = _; rw [Below.heap_alloc _ _ _ MB7.out.2]; exact MB7.out.1)))
          have SM8 : Hid (SMap (w7.alloc (.cells #[.bool b1, .bool b2, .bool b3, .bool b4, .int .u8 k, .string s, .slice p2 Q.length d2, .map (some w5.heap.size), .slice p3 X.length d3] 34)) w5.heap.size (V.length) (lastM M V (V.length))) := Lib.hid (SM.out.kept (by rw [Below.heap_alloc _ _ _ MB7.out.2]; exact MB7.out.1))
          have UU9 := Lib.hid (texts_below U9.out GA.out)
          have UU10 := Lib.hid (texts_below U10.out GA.out)
          clear hlen LEN SM MB7 MB6 U9 U10 U7 U8 U0 NB
          generalize (w7.alloc (.cells #[.bool b1, .bool b2, .bool b3, .bool b4, .int .u8 k, .string s, .slice p2 Q.length d2, .map (some w5.heap.size), .slice p3 X.length d3] 34)) = W8 at *
          go_loopg [32] (V.length) (fun g v32 wr => ∃ i : Nat, v32 = .int .i64 i ∧ (i : Int) ≤ (V.length : Int) ∧ V.length - i ≤ g ∧ Hid (∃ n, wr = W8.drewN n))
          case atStart => exact ⟨0, rfl, by omega, by omega, Lib.hid ⟨_, rfl⟩⟩
          case round =>
            obtain ⟨i, rfl, hi, hg, DR⟩ := hrel
            obtain ⟨n, rfl⟩ := DR.out
            clear DR
            by_cases hlt : (i : Int) < (V.length : Int)
            · have him : i < M.length := by omega
              have him' : (i : Int) < (M.length : Int) := by omega
              have L36 := Lib.hid fun (q : ByteArray) => last36 p4 p5 d4 d5 M V (V.length) q (W8.drewN (n + 1)) (by omega) (by omega) (by omega) (texts_cellsX UU9.out) (texts_cellsX UU10.out)
              obtain ⟨x1, o1, rfl, hc1⟩ := texts_cellsX UU9.out (by rintro rfl; simp at him)
              have hx1 := hc1 i him
              have z1 := HS.out.2.2.2.2.1.2 i him
              have hso := lastM_isSome M V i (V.length) (by omega)
              obtain ⟨v, hv2⟩ := Option.isSome_iff_exists.1 hso
              obtain ⟨x, hlook, hval⟩ := (SM8.out.kept (w' := W8.drewN (n + 1)) rfl).look (M.getD i ByteArray.empty) (by unfold maxLen; omega)
              have hxe := hval v hv2
              have hlb := lastM_some M V (M.getD i ByteArray.empty) (V.length) v hv2
              rw [hv2] at hlook
              have hlook2 : (Instr.lookup 31 (.map (some w5.heap.size)) (.string (M.getD i ByteArray.empty)) true).run Tryd.prog (W8.drewN (n + 1)) = .ok (.tuple #[.string x, .bool true]) (W8.drewN (n + 1)) := hlook
              have L36b := Lib.hid (L36.out (M.getD i ByteArray.empty))
              rw [hlb, ← hxe] at L36b
              clear hlook hval hxe hlb hso hv2 L36 hc1
              generalize M.getD i ByteArray.empty = mk at hx1 hlook2 z1 L36b
              have qx : (x.toList == x.toList) = true := by simp
              go_wp2
              go_region
              go_wp2_with (go_at_call 36; refine L36b.out.mono ?_; rintro e w9 ⟨rfl, rfl⟩; clear L36b)
              go_roundg (V.length - (i + 1))
              case measure => omega
              case rel => exact ⟨i + 1, by go_num, by omega, Nat.le_refl _, Lib.hid ⟨n + 1, rfl⟩⟩
            · go_wp2
              go_ret
              exact ⟨rfl, below_drewX (B5.out.trans (GA.out.mono B5.out.size)) _⟩
  · cases b11 with
    | true =>
      clear hmm
      go_wp2_with (fail)
      refine (E19.out w5 (Below.refl _ _)).mono ?_
      rintro e w6 ⟨sv, R, rfl, _, hB6, _⟩
      have G6 : Hid (Below w5.heap.size w5 w6) := Lib.hid (hB6)
      clear hB6
      have RES : Hid (∀ W : World, Calls Tryd.prog 20 #[.agg #[.bool b1, .bool b2, .bool b3, .bool b4, .int .u8 k, .string s, .slice p2 Q.length d2, .map none, .slice p3 X.length d3], .iface 97 (.agg #[.bool false, sv])] W fun e w' => e = .returned (.tuple #[.string ⟨#[]⟩, .agg #[.bool b1, .bool b2, .bool b3, .bool b4, .int .u8 k, .string s, .slice p2 Q.length d2, .map none, .slice p3 X.length d3]]) ∧ Below W.heap.size W w') := Lib.hid fun W => R20.out none p2 p3 Q.length X.length d2 d3 _ W
      have S34 := Lib.hid fun (W : World) (hW : Below w5.heap.size w5 W) => eq34s p2 d2 Q W hq (texts_cellsX (texts_below U7.out hW))
      have S35 := Lib.hid fun (W : World) (hW : Below w5.heap.size w5 W) => eq35s p3 d3 X W hx (ints_cells (ints_below U8.out hW))
      clear R20
      have qs : (s.toList == s.toList) = true := by simp
      go_wp2_with (first | (go_at_call 20; refine (RES.out _).mono ?_; rintro e w7 ⟨rfl, hb7⟩; have G7 : Hid (Below w5.heap.size w5 w7) := Lib.hid ((G6.out.alloc G6.out.size _).trans (hb7.mono (by have := G6.out.size; simp; omega))); clear hb7 RES; have NB : Hid ((w7.alloc (.cells #[.bool b1, .bool b2, .bool b3, .bool b4, .int .u8 k, .string s, .slice p2 Q.length d2, .map none, .slice p3 X.length d3] 34)).heap[w7.heap.size]? = some (.cells #[.bool b1, .bool b2, .bool b3, .bool b4, .int .u8 k, .string s, .slice p2 Q.length d2, .map none, .slice p3 X.length d3] 34)) := Lib.hid Array.getElem?_push_size; have GA : Hid (Below w5.heap.size w5 (w7.alloc (.cells #[.bool b1, .bool b2, .bool b3, .bool b4, .int .u8 k, .string s, .slice p2 Q.length d2, .map none, .slice p3 X.length d3] 34))) := Lib.hid (G7.out.alloc G7.out.size _); have r0 : (w7.alloc (.cells #[.bool b1, .bool b2, .bool b3, .bool b4, .int .u8 k, .string s, .slice p2 Q.length d2, .map none, .slice p3 X.length d3] 34)).cell? ⟨w7.heap.size, 0, none⟩ = some (.bool b1) := cell_heap NB.out 0 _ rfl; have r1 : (w7.alloc (.cells #[.bool b1, .bool b2, .bool b3, .bool b4, .int .u8 k, .string s, .slice p2 Q.length d2, .map none, .slice p3 X.length d3] 34)).cell? ⟨w7.heap.size, 1, none⟩ = some (.bool b2) := cell_heap NB.out 1 _ rfl; have r2 : (w7.alloc (.cells #[.bool b1, .bool b2, .bool b3, .bool b4, .int .u8 k, .string s, .slice p2 Q.length d2, .map none, .slice p3 X.length d3] 34)).cell? ⟨w7.heap.size, 2, none⟩ = some (.bool b3) := cell_heap NB.out 2 _ rfl; have r3 : (w7.alloc (.cells #[.bool b1, .bool b2, .bool b3, .bool b4, .int .u8 k, .string s, .slice p2 Q.length d2, .map none, .slice p3 X.length d3] 34)).cell? ⟨w7.heap.size, 3, none⟩ = some (.bool b4) := cell_heap NB.out 3 _ rfl; have r4 : (w7.alloc (.cells #[.bool b1, .bool b2, .bool b3, .bool b4, .int .u8 k, .string s, .slice p2 Q.length d2, .map none, .slice p3 X.length d3] 34)).cell? ⟨w7.heap.size, 4, none⟩ = some (.int .u8 k) := cell_heap NB.out 4 _ rfl; have r5 : (w7.alloc (.cells #[.bool b1, .bool b2, .bool b3, .bool b4, .int .u8 k, .string s, .slice p2 Q.length d2, .map none, .slice p3 X.length d3] 34)).cell? ⟨w7.heap.size, 5, none⟩ = some (.string s) := cell_heap NB.out 5 _ rfl; have r6 : (w7.alloc (.cells #[.bool b1, .bool b2, .bool b3, .bool b4, .int .u8 k, .string s, .slice p2 Q.length d2, .map none, .slice p3 X.length d3] 34)).cell? ⟨w7.heap.size, 6, none⟩ = some (.slice p2 Q.length d2) := cell_heap NB.out 6 _ rfl; have r7 : (w7.alloc (.cells #[.bool b1, .bool b2, .bool b3, .bool b4, .int .u8 k, .string s, .slice p2 Q.length d2, .map none, .slice p3 X.length d3] 34)).cell? ⟨w7.heap.size, 7, none⟩ = some (.map none) := cell_heap NB.out 7 _ rfl; have r8 : (w7.alloc (.cells #[.bool b1, .bool b2, .bool b3, .bool b4, .int .u8 k, .string s, .slice p2 Q.length d2, .map none, .slice p3 X.length d3] 34)).cell? ⟨w7.heap.size, 8, none⟩ = some (.slice p3 X.length d3) := cell_heap NB.out 8 _ rfl) | (go_at_call 34; refine (S34.out _ GA.out).mono ?_; rintro e w8 ⟨rfl, n1, rfl⟩; clear S34) | (go_at_call 35; refine (S35.out _ (below_drewX GA.out n1)).mono ?_; rintro e w9 ⟨rfl, n2, rfl⟩; clear S35))
      go_ret
      exact ⟨rfl, below_drewX (B5.out.trans (GA.out.mono B5.out.size)) _⟩
    | false =>
      have M0 : Hid (MapAt M V w5.heap.size 0 w5 (w5.alloc (.map #[] 0))) := Lib.hid ⟨smap_made w5, (Below.refl _ _).alloc (Nat.le_refl _) _⟩
      go_wp2_with (fail)
      clear hmm
      generalize hW : w5.alloc (.map #[] 0) = W2 at M0 ⊢
      clear hW
      go_loopg [27] (M.length) (fun g v27 wr => ∃ i : Nat, v27 = .int .i64 i ∧ (i : Int) ≤ (M.length : Int) ∧ M.length - i ≤ g ∧ Hid (MapAt M V w5.heap.size i w5 wr))
      case atStart => exact ⟨0, rfl, by omega, by omega, M0⟩
      case round =>
        clear M0
        obtain ⟨i, rfl, hi, hg, MT⟩ := hrel
        by_cases hlt : (i : Int) < (M.length : Int)
        · have him : i < M.length := by omega
          have hiv : i < V.length := by omega
          have him' : (i : Int) < (M.length : Int) := by omega
          have hiv' : (i : Int) < (V.length : Int) := by omega
          obtain ⟨x1, o1, rfl, hc1⟩ := texts_cellsX (texts_below U9.out MT.out.below) (by rintro rfl; simp at him)
          obtain ⟨x2, o2, rfl, hc2⟩ := texts_cellsX (texts_below U10.out MT.out.below) (by rintro rfl; simp at hiv)
          have hx1 := hc1 i him
          have hx2 := hc2 i hiv
          have z1 := HS.out.2.2.2.2.1.2 i him
          have z2 := HS.out.2.2.2.2.2.2 i hiv
          obtain ⟨W3, hput, hSM, hgr⟩ := (MT.out.map.kept (w' := wr.drew) rfl).put (by unfold maxLen; omega) (M.getD i ByteArray.empty) (V.getD i ByteArray.empty) (by unfold maxLen; omega) (by unfold maxLen; omega)
          have M2 : Hid (MapAt M V w5.heap.size (i + 1) w5 W3) := Lib.hid ⟨hSM, below_grown5 MT.out.below.drew (Nat.le_refl _) (Nat.le_refl _) hgr⟩
          generalize M.getD i ByteArray.empty = mk at hx1 hput z1
          generalize V.getD i ByteArray.empty = mv at hx2 hput z2
          clear hc1 hc2 hSM hgr MT
          go_wp2
          go_region
          all_goals go_wp2
          all_goals go_roundg (M.length - (i + 1))
          case measure => omega
          case rel => exact ⟨i + 1, by go_num, by omega, Nat.le_refl _, M2⟩
        · obtain rfl : i = M.length := by omega
          have SM := Lib.hid MT.out.map
          have BW := Lib.hid MT.out.below
          obtain ⟨m, _, hln⟩ := SM.out.size2
          have LEN := Lib.hid hln
          clear MT hln hi hlt hg
          go_wp2_with (fail)
          refine (E19.out wr BW.out).mono ?_
          rintro e w6 ⟨sv, R, rfl, _, hB6, _⟩
          have G6 : Hid (Below w5.heap.size w5 w6) := Lib.hid ((BW.out.trans (hB6.mono BW.out.size)))
          have MB6 : Hid (w6.heap[w5.heap.size]? = wr.heap[w5.heap.size]? ∧ w5.heap.size < w6.heap.size) := Lib.hid ⟨hB6.block _ SM.out.lt, Nat.lt_of_lt_of_le SM.out.lt hB6.size⟩
          clear hB6
          have RES : Hid (∀ W : World, Calls Tryd.prog 20 #[.agg #[.bool b1, .bool b2, .bool b3, .bool b4, .int .u8 k, .string s, .slice p2 Q.length d2, .map (some w5.heap.size), .slice p3 X.length d3], .iface 97 (.agg #[.bool false, sv])] W fun e w' => e = .returned (.tuple #[.string ⟨#[]⟩, .agg #[.bool b1, .bool b2, .bool b3, .bool b4, .int .u8 k, .string s, .slice p2 Q.length d2, .map (some w5.heap.size), .slice p3 X.length d3]]) ∧ Below W.heap.size W w') := Lib.hid fun W => R20.out (some w5.heap.size) p2 p3 Q.length X.length d2 d3 _ W
          have S34 := Lib.hid fun (W : World) (hW : Below w5.heap.size w5 W) => eq34s p2 d2 Q W hq (texts_cellsX (texts_below U7.out hW))
          have S35 := Lib.hid fun (W : World) (hW : Below w5.heap.size w5 W) => eq35s p3 d3 X W hx (ints_cells (ints_below U8.out hW))
          clear R20
          have qs : (s.toList == s.toList) = true := by simp
          go_wp2_with (first | (go_at_call 20; refine (RES.out _).mono ?_; rintro e w7 ⟨rfl, hb7⟩; have G7 : Hid (Below w5.heap.size w5 w7) := Lib.hid ((G6.out.alloc G6.out.size _).trans (hb7.mono (by have := G6.out.size; simp; omega))); have MB7 : Hid (w7.heap[w5.heap.size]? = wr.heap[w5.heap.size]? ∧ w5.heap.size < w7.heap.size) := Lib.hid ⟨(hb7.block _ (by have := MB6.out.2; simp; omega)).trans ((Below.heap_alloc _ _ _ MB6.out.2).trans MB6.out.1), by have h1 := MB6.out.2; have h2 := hb7.size; simp at h2; omega⟩; clear hb7 RES; have NB : Hid ((w7.alloc (.cells #[.bool b1, .bool b2, .bool b3, .bool b4, .int .u8 k, .string s, .slice p2 Q.length d2, .map (some w5.heap.size), .slice p3 X.length d3] 34)).heap[w7.heap.size]? = some (.cells #[.bool b1, .bool b2, .bool b3, .bool b4, .int .u8 k, .string s, .slice p2 Q.length d2, .map (some w5.heap.size), .slice p3 X.length d3] 34)) := Lib.hid Array.getElem?_push_size; have GA : Hid (Below w5.heap.size w5 (w7.alloc (.cells #[.bool b1, .bool b2, .bool b3, .bool b4, .int .u8 k, .string s, .slice p2 Q.length d2, .map (some w5.heap.size), .slice p3 X.length d3] 34))) := Lib.hid (G7.out.alloc G7.out.size _); have r0 : (w7.alloc (.cells #[.bool b1, .bool b2, .bool b3, .bool b4, .int .u8 k, .string s, .slice p2 Q.length d2, .map (some w5.heap.size), .slice p3 X.length d3] 34)).cell? ⟨w7.heap.size, 0, none⟩ = some (.bool b1) := cell_heap NB.out 0 _ rfl; have r1 : (w7.alloc (.cells #[.bool b1, .bool b2, .bool b3, .bool b4, .int .u8 k, .string s, .slice p2 Q.length d2, .map (some w5.heap.size), .slice p3 X.length d3] 34)).cell? ⟨w7.heap.size, 1, none⟩ = some (.bool b2) := cell_heap NB.out 1 _ rfl; have r2 : (w7.alloc (.cells #[.bool b1, .bool b2, .bool b3, .bool b4, .int .u8 k, .string s, .slice p2 Q.length d2, .map (some w5.heap.size), .slice p3 X.length d3] 34)).cell? ⟨w7.heap.size, 2, none⟩ = some (.bool b3) := cell_heap NB.out 2 _ rfl; have r3 : (w7.alloc (.cells #[.bool b1, .bool b2, .bool b3, .bool b4, .int .u8 k, .string s, .slice p2 Q.length d2, .map (some w5.heap.size), .slice p3 X.length d3] 34)).cell? ⟨w7.heap.size, 3, none⟩ = some (.bool b4) := cell_heap NB.out 3 _ rfl; have r4 : (w7.alloc (.cells #[.bool b1, .bool b2, .bool b3, .bool b4, .int .u8 k, .string s, .slice p2 Q.length d2, .map (some w5.heap.size), .slice p3 X.length d3] 34)).cell? ⟨w7.heap.size, 4, none⟩ = some (.int .u8 k) := cell_heap NB.out 4 _ rfl; have r5 : (w7.alloc (.cells #[.bool b1, .bool b2, .bool b3, .bool b4, .int .u8 k, .string s, .slice p2 Q.length d2, .map (some w5.heap.size), .slice p3 X.length d3] 34)).cell? ⟨w7.heap.size, 5, none⟩ = some (.string s) := cell_heap NB.out 5 _ rfl; have r6 : (w7.alloc (.cells #[.bool b1, .bool b2, .bool b3, .bool b4, .int .u8 k, .string s, .slice p2 Q.length d2, .map (some w5.heap.size), .slice p3 X.length d3] 34)).cell? ⟨w7.heap.size, 6, none⟩ = some (.slice p2 Q.length d2) := cell_heap NB.out 6 _ rfl; have r7 : (w7.alloc (.cells #[.bool b1, .bool b2, .bool b3, .bool b4, .int .u8 k, .string s, .slice p2 Q.length d2, .map (some w5.heap.size), .slice p3 X.length d3] 34)).cell? ⟨w7.heap.size, 7, none⟩ = some (.map (some w5.heap.size)) := cell_heap NB.out 7 _ rfl; have r8 : (w7.alloc (.cells #[.bool b1, .bool b2, .bool b3, .bool b4, .int .u8 k, .string s, .slice p2 Q.length d2, .map (some w5.heap.size), .slice p3 X.length d3] 34)).cell? ⟨w7.heap.size, 8, none⟩ = some (.slice p3 X.length d3) := cell_heap NB.out 8 _ rfl) | (go_at_call 34; refine (S34.out _ GA.out).mono ?_; rintro e w8 ⟨rfl, n1, rfl⟩; clear S34) | (go_at_call 35; refine (S35.out _ (below_drewX GA.out n1)).mono ?_; rintro e w9 ⟨rfl, n2, rfl⟩; clear S35; have hlen := fun (n : Nat) (ty : TypeId) => LEN.out ((w7.alloc (.cells #[.bool b1, .bool b2, .bool b3, .bool b4, .int .u8 k, .string s, .slice p2 Q.length d2, .map (some w5.heap.size), .slice p3 X.length d3] 34)).drewN n) ty (by show (w7.alloc (.cells #[.bool b1, .bool b2, .bool b3, .bool b4, .int .u8 k, .string s, .slice p2 Q.length d2, .map (some w5.heap.size), .slice p3 X.length d3] 34)).heap[w5.heap.size]? = _; rw [Below.heap_alloc _ _ _ MB7.out.2]; exact MB7.out.1)))
          have SM8 : Hid (SMap (w7.alloc (.cells #[.bool b1, .bool b2, .bool b3, .bool b4, .int .u8 k, .string s, .slice p2 Q.length d2, .map (some w5.heap.size), .slice p3 X.length d3] 34)) w5.heap.size (M.length) (lastM M V (M.length))) := Lib.hid (SM.out.kept (by rw [Below.heap_alloc _ _ _ MB7.out.2]; exact MB7.out.1))
          have UU9 := Lib.hid (texts_below U9.out GA.out)
          have UU10 := Lib.hid (texts_below U10.out GA.out)
          clear hlen LEN SM MB7 MB6 U9 U10 U7 U8 U0 NB
          generalize (w7.alloc (.cells #[.bool b1, .bool b2, .bool b3, .bool b4, .int .u8 k, .string s, .slice p2 Q.length d2, .map (some w5.heap.size), .slice p3 X.length d3] 34)) = W8 at *
          go_loopg [32] (M.length) (fun g v32 wr => ∃ i : Nat, v32 = .int .i64 i ∧ (i : Int) ≤ (M.length : Int) ∧ M.length - i ≤ g ∧ Hid (∃ n, wr = W8.drewN n))
          case atStart => exact ⟨0, rfl, by omega, by omega, Lib.hid ⟨_, rfl⟩⟩
          case round =>
            obtain ⟨i, rfl, hi, hg, DR⟩ := hrel
            obtain ⟨n, rfl⟩ := DR.out
            clear DR
            by_cases hlt : (i : Int) < (M.length : Int)
            · have him : i < M.length := by omega
              have him' : (i : Int) < (M.length : Int) := by omega
              have L36 := Lib.hid fun (q : ByteArray) => last36 p4 p5 d4 d5 M V (M.length) q (W8.drewN (n + 1)) (by omega) (by omega) (by omega) (texts_cellsX UU9.out) (texts_cellsX UU10.out)
              obtain ⟨x1, o1, rfl, hc1⟩ := texts_cellsX UU9.out (by rintro rfl; simp at him)
              have hx1 := hc1 i him
              have z1 := HS.out.2.2.2.2.1.2 i him
              have hso := lastM_isSome M V i (M.length) (by omega)
              obtain ⟨v, hv2⟩ := Option.isSome_iff_exists.1 hso
              obtain ⟨x, hlook, hval⟩ := (SM8.out.kept (w' := W8.drewN (n + 1)) rfl).look (M.getD i ByteArray.empty) (by unfold maxLen; omega)
              have hxe := hval v hv2
              have hlb := lastM_some M V (M.getD i ByteArray.empty) (M.length) v hv2
              rw [hv2] at hlook
              have hlook2 : (Instr.lookup 31 (.map (some w5.heap.size)) (.string (M.getD i ByteArray.empty)) true).run Tryd.prog (W8.drewN (n + 1)) = .ok (.tuple #[.string x, .bool true]) (W8.drewN (n + 1)) := hlook
              have L36b := Lib.hid (L36.out (M.getD i ByteArray.empty))
              rw [hlb, ← hxe] at L36b
              clear hlook hval hxe hlb hso hv2 L36 hc1
              generalize M.getD i ByteArray.empty = mk at hx1 hlook2 z1 L36b
              have qx : (x.toList == x.toList) = true := by simp
              go_wp2
              go_region
              go_wp2_with (go_at_call 36; refine L36b.out.mono ?_; rintro e w9 ⟨rfl, rfl⟩; clear L36b)
              go_roundg (M.length - (i + 1))
              case measure => omega
              case rel => exact ⟨i + 1, by go_num, by omega, Nat.le_refl _, Lib.hid ⟨n + 1, rfl⟩⟩
            · go_wp2
              go_ret
              exact ⟨rfl, below_drewX (B5.out.trans (GA.out.mono B5.out.size)) _⟩
end Go.Proofs.YthihppocokkoiaaDoor
