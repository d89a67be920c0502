/-
  The walk of the fresh copy of a slice of texts, and of the exported door to Get. Conditions: those in each theorem.
-/
import Derived.Test.YthihppocokkoiaaDoorLwB
import Derived.Laws.CopyOwn
import Derived.Laws.MakeOwn
import Derived.Lib.SlBuf
namespace Go.Proofs.YthihppocokkoiaaDoor
set_option linter.unusedVariables false
open Go.Shelf Go.RowKit Go.Lib Go.Sort

theorem info9 : ∃ i z, Tryd.prog.info? 9 = some i ∧ i.zero = some z ∧ i.bytes = 16 ∧ i.size = 1 := by
  have h1 : (Tryd.prog.info? 9).map (·.size) = some 1 := by kernel_rfl
  have h2 : (Tryd.prog.info? 9).map (·.bytes) = some 16 := by kernel_rfl
  have h3 : ((Tryd.prog.info? 9).bind (·.zero)).isSome = true := by kernel_rfl
  cases h : Tryd.prog.info? 9 with
  | none => rw [h] at h1; cases h1
  | some i =>
    rw [h] at h1 h2 h3
    cases hz : i.zero with
    | none => simp [hz] at h3
    | some z => exact ⟨i, z, rfl, hz, by simpa using h2, by simpa using h1⟩

theorem make22 (w : World) (n : Nat) (hn : n ≤ 1048576) : ∃ cs : Array Value, cs.size = n ∧ (Instr.makeSlice 22 (.int .i64 (n : Int)) (.int .i64 (n : Int))).run Tryd.prog w = .ok (.slice (some ⟨w.heap.size, 0, none⟩) n n) (w.alloc (.cells cs 9)) := by
  obtain ⟨i, z, h1, h2, h3, h4⟩ := info9
  have := run_make (P := Tryd.prog) w 22 9 i z Tryd.underlying22 h1 h2 .i64 .i64 n n (by omega) (by omega) (by rw [h3]; omega) (by omega)
  rw [Int.toNat_natCast] at this
  exact ⟨_, by rw [size_madeCells, h4]; omega, this⟩

/-- the copied row -/
theorem copy22 (W : World) (g : Nat) (cur : Array Value) (P : List ByteArray) (ad : Addr) (c : Nat) (hg : W.heap[g]? = some (.cells cur 9 (0, 0))) (hc : cur.size = P.length)
    (hsrc : ∀ j, j < P.length → W.cell? (ad.add j) = some (.string (P.getD j ByteArray.empty))) (ty : TypeId) :
    (Builtin.copy_ #[22, 22] ty #[.slice (some ⟨g, 0, none⟩) P.length P.length, .slice (some ad) P.length c]).run Tryd.prog W = .ok (goInt P.length) (W.setRow g (P.map Value.string).toArray) := by
  have h := run_copy_row (P := Tryd.prog) W 22 22 ty 9 g 0 P.length P.length ad P.length c cur 9 (P.map Value.string) Tryd.underlying22 (by kernel_rfl) hg (by simp) (fun j v hv => by
    rw [List.getElem?_map] at hv
    obtain ⟨s, hs, rfl⟩ := Option.map_eq_some_iff.1 hv
    have hj := (List.getElem?_eq_some_iff.1 hs).1
    rw [hsrc j hj]
    simp [List.getD, hs]) (by simp; omega) (fun v hv => by obtain ⟨s, _, rfl⟩ := List.mem_map.1 hv; rfl)
  rw [h]
  simp
  rw [List.drop_of_length_le (by simp [hc])]
  simp

theorem texts_row (W : World) (g : Nat) (cur : Array Value) (t : TypeId) (P : List ByteArray) (hg : W.heap[g]? = some (.cells cur t (0, 0))) : Texts (W.setRow g (P.map Value.string).toArray) (.slice (some ⟨g, 0, none⟩) P.length P.length) P := by
  have h2 := setRow_heap W g cur (P.map Value.string).toArray t _ hg
  refine ⟨_, _, rfl, fun _ => ⟨g, 0, rfl, (Array.getElem?_eq_some_iff.1 h2).1, fun j hj => ?_⟩⟩
  rw [Nat.zero_add]
  refine cell_heap h2 j _ ?_
  simp [List.getElem?_eq_getElem hj, List.getD]

set_option maxHeartbeats 1000000 in
theorem clone58 (v : Value) (P : List ByteArray) (w : World) (hv : Texts w v P) (hn : P.length ≤ 1048576) :
    Calls Tryd.prog 58 #[v] w fun e w' => (∃ v', e = .returned v' ∧ Texts w' v' P) ∧ Below w.heap.size w w' := by
  obtain ⟨a, c, rfl, hc⟩ := hv
  have q22 : ∀ (w : World) (a : Option Addr) (n c n' c' : Nat), (binOp .eql 22 (.slice a n c) (.slice none n' c')).run Tryd.prog w = .ok (.bool a.isNone) w := fun w a n c n' c' => Lib.run_eql_slice_nil w _ _ a n c n' c' Tryd.underlying22
  cases a with
  | none =>
    have hp : P = [] := by
      cases P with
      | nil => rfl
      | cons x P => obtain ⟨b, off, h, _⟩ := hc (by simp); cases h
    subst hp
    clear hc
    go_enter Tryd.func58, Tryd.ntmps58
    go_wp2
    go_ret
    exact ⟨⟨_, rfl, ⟨none, 0, rfl, fun h => absurd rfl h⟩⟩, Below.refl _ _⟩
  | some x =>
    obtain ⟨cs, hcs, hmk⟩ := make22 w P.length hn
    have hg : (w.alloc (.cells cs 9)).heap[w.heap.size]? = some (.cells cs 9 (0, 0)) := by show (w.heap.push _)[w.heap.size]? = _; exact Array.getElem?_push_size
    have hr : ∀ ty, (Builtin.copy_ #[22, 22] ty #[.slice (some ⟨w.heap.size, 0, none⟩) P.length P.length, .slice (some x) P.length c]).run Tryd.prog (w.alloc (.cells cs 9)) = .ok (goInt P.length) ((w.alloc (.cells cs 9)).setRow w.heap.size (P.map Value.string).toArray) := by
      intro ty
      refine copy22 _ _ cs P x c hg hcs (fun j hj => ?_) ty
      obtain ⟨b, off, hx, hb, hcell⟩ := hc (by rintro rfl; simp at hj)
      cases hx
      rw [show (⟨b, off, none⟩ : Addr).add j = ⟨b, off + j, none⟩ by simp [Addr.add]]
      rw [World.cell?_of_block (w := w) (((Below.refl w.heap.size w).alloc (Nat.le_refl _) _).block b hb)]
      exact hcell j hj
    have HT := Lib.hid (texts_row _ _ _ _ P hg)
    have HB : Hid (Below w.heap.size w ((w.alloc (.cells cs 9)).setRow w.heap.size (P.map Value.string).toArray)) := Lib.hid (below_setRow ((Below.refl w.heap.size w).alloc (Nat.le_refl _) _) (Nat.le_refl _) _)
    generalize hW : w.alloc (.cells cs 9) = W1 at *
    generalize hW2 : W1.setRow w.heap.size (P.map Value.string).toArray = W2 at *
    clear hW hW2 hg hc
    go_enter Tryd.func58, Tryd.ntmps58
    go_wp2_with (at_builtin; refine Lib.wpList_copy_run _ rfl _ _ 22 22 rfl _ _ rfl rfl (hr _) ?_)
    go_ret
    exact ⟨⟨_, rfl, HT.out⟩, HB.out⟩
end Go.Proofs.YthihppocokkoiaaDoor
