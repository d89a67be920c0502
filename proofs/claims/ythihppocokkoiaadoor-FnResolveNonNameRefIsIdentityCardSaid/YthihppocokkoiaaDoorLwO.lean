/-
  Helpers of the law of the later pair: the size guard at every number, a copy into a longer row, an environment's answers, the look at two like answers. Conditions: those in each theorem.
-/
import Derived.Test.YthihppocokkoiaaDoorLwN
import Derived.Laws.IdiomCopy
namespace Go.Proofs.YthihppocokkoiaaDoor
set_option linter.unusedVariables false
open Go.Shelf Go.RowKit Go.Lib Go.Sort

set_option maxHeartbeats 1000000 in
theorem size38i (a : Option Addr) (c : Nat) (P : List ByteArray) (x : Int) (w : World) (h0 : 0 ≤ x) (h1 : x ≤ 4294967296) (hS : Small P) (hc : P ≠ [] → ∃ b off, a = some ⟨b, off, none⟩ ∧ ∀ j, j < P.length → w.cell? ⟨b, off + j, none⟩ = some (.string (P.getD j ByteArray.empty))) :
    Calls Tryd.prog 38 #[.slice a P.length c, .int .i64 x] w fun e w' => GuardSay (P.length ≤ 65536) e ∧ w = w' := by
  have hp : (P.length : Int) ≤ 1048576 := by have := hS.1; omega
  by_cases h65 : (65536 : Int) < (P.length : Int)
  · go_enter Tryd.func38, Tryd.ntmps38
    go_wp2
    go_ret
    exact ⟨gs_no rfl, rfl⟩
  · by_cases h : x ≤ 1048576
    · obtain ⟨n, rfl⟩ : ∃ n : Nat, x = n := ⟨x.toNat, by omega⟩
      refine (size38 a c P n w (by omega) hS hc).mono ?_
      rintro e w' ⟨⟨b, he, _⟩, hw⟩
      exact ⟨⟨b, he, fun _ => by omega⟩, hw⟩
    · have hb : 1048576 < x := by omega
      go_enter Tryd.func38, Tryd.ntmps38
      go_wp2
      go_ret
      exact ⟨gs_no rfl, rfl⟩

theorem make22a (n : Nat) (hn : n ≤ 1048576) : ∃ cs : Array Value, cs.size = n ∧ ∀ w : World, (Instr.makeSlice 22 (.int .i64 (n : Int)) (.int .i64 (n : Int))).run Tryd.prog w = .ok (.slice (some ⟨w.heap.size, 0, none⟩) n n) (w.alloc (.cells cs 9)) := by
  obtain ⟨i, z, h1, h2, h3, h4⟩ := info9
  refine ⟨madeCells z.cells (n * i.size), ?_, fun w => ?_⟩
  · rw [size_madeCells, h4]; omega
  · have := run_make (P := Tryd.prog) w 22 9 i z Tryd.underlying22 h1 h2 .i64 .i64 n n (by omega) (by omega) (by rw [h3]; omega) (by omega)
    rw [Int.toNat_natCast] at this
    exact this

/-- what a copy into a longer row leaves -/
structure CopyMore (P : List ByteArray) (g : Nat) (W W2 : World) (cs2 : Array Value) : Prop where
  heap : W2.heap[g]? = some (.cells cs2 9)
  size : cs2.size = P.length + 1
  done : ∀ j, j < P.length → cs2[j]? = some (.string (P.getD j ByteArray.empty))
  below : Below g W W2
  same : W2.heap.size = W.heap.size

theorem copy_more (W : World) (P : List ByteArray) (a : Option Addr) (c g : Nat) (cs : Array Value) (hT : Texts W (.slice a P.length c) P) (hg : W.heap[g]? = some (.cells cs 9 (0, 0))) (hcs : cs.size = P.length + 1) :
    ∃ W2 cs2, (∀ ty, (Builtin.copy_ #[22, 22] ty #[.slice (some ⟨g, 0, none⟩) (P.length + 1) (P.length + 1), .slice a P.length c]).run Tryd.prog W = .ok (goInt P.length) W2) ∧ CopyMore P g W W2 cs2 := by
  by_cases hp : P = []
  · subst hp
    refine ⟨W, cs, fun ty => ?_, ⟨hg, hcs, fun j hj => absurd hj (Nat.not_lt_zero _), Below.refl _ _, rfl⟩⟩
    exact run_copy_none (P := Tryd.prog) W 22 22 ty 9 _ _ _ _ _ _ Tryd.underlying22 (by kernel_rfl) (by simp)
  · obtain ⟨a', c', hv, hc⟩ := hT
    obtain ⟨b, off, hx, hb, hcell⟩ := hc hp
    injection hv with h1 h2 h3
    subst h1
    subst hx
    have h := fun ty => run_copy_row (P := Tryd.prog) W 22 22 ty 9 g 0 (P.length + 1) (P.length + 1) ⟨b, off, none⟩ P.length c cs 9 (P.map Value.string) Tryd.underlying22 (by kernel_rfl) hg (by simp) (fun j v hv => by
      rw [List.getElem?_map] at hv
      obtain ⟨s, hs, rfl⟩ := Option.map_eq_some_iff.1 hv
      have hj := (List.getElem?_eq_some_iff.1 hs).1
      rw [show (⟨b, off, none⟩ : Addr).add j = ⟨b, off + j, none⟩ by simp [Addr.add], hcell j hj]
      simp [List.getD, hs]) (by simp; omega) (fun v hv => by obtain ⟨s, _, rfl⟩ := List.mem_map.1 hv; rfl)
    refine ⟨W.setRow g (cs.toList.take 0 ++ P.map Value.string ++ cs.toList.drop (0 + (P.map Value.string).length)).toArray, (cs.toList.take 0 ++ P.map Value.string ++ cs.toList.drop (0 + (P.map Value.string).length)).toArray, fun ty => ?_, ⟨setRow_heap W g cs _ 9 _ hg, ?_, fun j hj => ?_, below_setRow (Below.refl g W) (Nat.le_refl _) _, ?_⟩⟩
    · rw [h ty, List.length_map]
    · simp [hcs]
    · simp only [List.take_zero, List.nil_append, List.getElem?_toArray]
      rw [List.getElem?_append_left (by simpa using hj), List.getElem?_map, List.getElem?_eq_getElem hj]
      simp [List.getD, List.getElem?_eq_getElem hj]
    · simp

theorem env48g (v : Value) (P : List ByteArray) (w : World) (hv : Texts w v P) (hP : ∀ s ∈ P, s.size ≤ 1073741824) (hn : P.length ≤ 1048576) : Calls Tryd.prog 48 #[v] w (EnvOut w (P.map (·.data.toList))) := by
  have ENV := Lib.hid (env_any v P w hv hP hn)
  clear hv hP hn
  go_enter Tryd.func48, Tryd.ntmps48
  go_wp2_with (first | (go_at_call 66; go_must (refine ENV.out.mono ?_); rintro e w2 ⟨sv, R, rfl, hE, hB2, hR⟩; have HI := Lib.hid (And.intro hE (And.intro hB2 hR)); clear hE hR hB2 ENV))
  go_ret
  exact ⟨sv, R, rfl, HI.out.1, HI.out.2.1, HI.out.2.2⟩

theorem env_gets {L : List (List UInt8)} {W0 W : World} {e : Ending} (h : EnvOut W0 L e W) (hL : ∀ x ∈ L, x.length ≤ 1073741824) (hn : L.length ≤ 1073741824) :
    ∃ sv, e = .returned (.iface 97 (.agg #[.bool false, sv])) ∧ Below W0.heap.size W0 W ∧ ∀ (q : ByteArray) (W' : World), q.size ≤ 1048576 → 61 ∉ q.data.toList → Below W.heap.size W W' →
      Calls Tryd.prog 141 #[.agg #[.bool false, sv], .string q] W' fun e w' => e = .returned (answer (Envp.look L q.data.toList) q.size) ∧ Below W'.heap.size W' w' := by
  obtain ⟨sv, R, he, hE, hB, hR⟩ := h
  exact ⟨sv, he, hB, fun q W' sq hq hb => get_any L R q W' _ sv hE (rowat_below hR hb) hL (by have := env_length hE; omega) (by omega) hq⟩

theorem same54a (o : Option (List UInt8)) (n : Nat) (w : World) : Calls Tryd.prog 54 #[answer o n, answer o n] w fun e w' => e = .returned (.bool true) ∧ Below w.heap.size w w' := by
  cases o with
  | none => exact same54z w
  | some x => exact same54s _ w
end Go.Proofs.YthihppocokkoiaaDoor
