/-
  The walk of the exported door to the environment's Get. Conditions: those in each theorem.
-/
import Derived.Test.YthihppocokkoiaaDoorLwC
namespace Go.Proofs.YthihppocokkoiaaDoor
set_option linter.unusedVariables false
open Go.Shelf Go.RowKit Go.Lib Go.Sort

theorem sub_length {α : Type} [BEq α] [LawfulBEq α] : ∀ (R L : List α), R.Nodup → (∀ x ∈ R, x ∈ L) → R.length ≤ L.length
  | [], L, _, _ => by simp
  | x :: R, L, hn, hs => by
    rw [List.nodup_cons] at hn
    have hx := hs x (by simp)
    have := sub_length R (L.erase x) hn.2 (fun y hy => (List.mem_erase_of_ne (by rintro rfl; exact hn.1 hy)).2 (hs y (by simp [hy])))
    rw [List.length_erase_of_mem hx] at this
    have := List.length_pos_of_mem hx
    simp; omega
theorem env_length {L R : List (List UInt8)} (h : Envp.Env L R) : R.length ≤ L.length := by
  refine sub_length R L (h.inc.imp fun {a b} hab e => ?_) (fun y hy => (h.valid y hy).1)
  rw [e] at hab; exact Envp.blt_irr _ hab

theorem answer_form (o : Option (List UInt8)) (n : Nat) : ∃ (b : Bool) (k : Int) (s : ByteArray), answer o n = .agg #[.bool b, .bool false, .bool b, .bool false, .int .u8 k, .string s, .slice none 0 0, .map none, .slice none 0 0] := by
  cases o with
  | none => exact ⟨false, 0, _, rfl⟩
  | some x => exact ⟨true, 1, _, rfl⟩

/- an env's Get, by interface, at whatever it answers -/
set_option maxRecDepth 20000 in
set_option maxHeartbeats 2000000 in
theorem get59_core (v : Value) (q : ByteArray) (w : World) (b : Bool) (k : Int) (s : ByteArray) (I : Value → World → World → Prop)
    (ENV : Hid (∀ (W : World), Below w.heap.size w W → Calls Tryd.prog 66 #[.bool false, v] W fun e w' => ∃ sv, e = .returned (.iface 97 (.agg #[.bool false, sv])) ∧ I sv W w' ∧ Below W.heap.size W w'))
    (GET : Hid (∀ (sv : Value) (W0 W : World), I sv W0 W → Calls Tryd.prog 141 #[.agg #[.bool false, sv], .string q] W fun e w' => e = .returned (.agg #[.bool b, .bool false, .bool b, .bool false, .int .u8 k, .string s, .slice none 0 0, .map none, .slice none 0 0]) ∧ Below W.heap.size W w')) :
    Calls Tryd.prog 59 #[.bool false, v, .string q] w fun e w' => e = .returned (.agg #[.bool b, .bool false, .bool b, .bool false, .int .u8 k, .string s, .slice none 0 0, .map none, .slice none 0 0]) ∧ Below w.heap.size w w' := by
  have method_get : ∀ (sv : Value) (w : World), (method 342 97 (.agg #[.bool false, sv]) "Get").run Tryd.prog w = .ok (141, .agg #[.bool false, sv]) w := fun sv w => by kernel_rfl
  go_enter Tryd.func59, Tryd.ntmps59
  go_wp2_with (first | (go_at_call 66; go_must (refine (ENV.out _ ((Below.refl _ _).alloc (Nat.le_refl _) _)).mono ?_); rintro e w2 ⟨sv, rfl, hI, hB2⟩; have HI := Lib.hid hI; have HB2 := Lib.hid hB2; clear hI hB2 ENV) | (go_at_call 141; go_must (refine (GET.out _ _ _ HI.out).mono ?_); rintro e w3 ⟨rfl, hB3⟩; have hB23 := Lib.hid (HB2.out.trans (hB3.mono HB2.out.size)); have H0 : Hid (w3.heap[w.heap.size]? = some (.cells #[.bool false, .bool false, .bool false, .bool false, .int .u8 0, .string ⟨#[]⟩, .slice none 0 0, .map none, .slice none 0 0] 34)) := Lib.hid ((hB23.out.block w.heap.size (by simp)).trans (by show (w.heap.push _)[w.heap.size]? = _; exact Array.getElem?_push_size)); have r0 : w3.cell? ⟨w.heap.size, 0, none⟩ = some (.bool false) := cell_heap H0.out 0 _ rfl; have f0 : w3.frozen? ⟨w.heap.size, 0, none⟩ = false := frozen_heap H0.out 0; have r1 : w3.cell? ⟨w.heap.size, 1, none⟩ = some (.bool false) := cell_heap H0.out 1 _ rfl; have f1 : w3.frozen? ⟨w.heap.size, 1, none⟩ = false := frozen_heap H0.out 1; have r2 : w3.cell? ⟨w.heap.size, 2, none⟩ = some (.bool false) := cell_heap H0.out 2 _ rfl; have f2 : w3.frozen? ⟨w.heap.size, 2, none⟩ = false := frozen_heap H0.out 2; have r3 : w3.cell? ⟨w.heap.size, 3, none⟩ = some (.bool false) := cell_heap H0.out 3 _ rfl; have f3 : w3.frozen? ⟨w.heap.size, 3, none⟩ = false := frozen_heap H0.out 3; have r4 : w3.cell? ⟨w.heap.size, 4, none⟩ = some (.int .u8 0) := cell_heap H0.out 4 _ rfl; have f4 : w3.frozen? ⟨w.heap.size, 4, none⟩ = false := frozen_heap H0.out 4; have r5 : w3.cell? ⟨w.heap.size, 5, none⟩ = some (.string ⟨#[]⟩) := cell_heap H0.out 5 _ rfl; have f5 : w3.frozen? ⟨w.heap.size, 5, none⟩ = false := frozen_heap H0.out 5; have r6 : w3.cell? ⟨w.heap.size, 6, none⟩ = some (.slice none 0 0) := cell_heap H0.out 6 _ rfl; have f6 : w3.frozen? ⟨w.heap.size, 6, none⟩ = false := frozen_heap H0.out 6; have r7 : w3.cell? ⟨w.heap.size, 7, none⟩ = some (.map none) := cell_heap H0.out 7 _ rfl; have f7 : w3.frozen? ⟨w.heap.size, 7, none⟩ = false := frozen_heap H0.out 7; have r8 : w3.cell? ⟨w.heap.size, 8, none⟩ = some (.slice none 0 0) := cell_heap H0.out 8 _ rfl; have f8 : w3.frozen? ⟨w.heap.size, 8, none⟩ = false := frozen_heap H0.out 8; have BB := Lib.hid (((Below.refl w.heap.size w).alloc (Nat.le_refl _) _).trans (hB23.out.mono (by simp))); have z5 : w.heap.size < w3.heap.size := (by have := hB23.out.size; simp at this; omega); clear hB3 HB2 HI GET hB23 method_get))
  have hF := put9 _ _ _ _ _ _ _ _ _ (.bool b) (.bool false) (.bool b) (.bool false) (.int .u8 k) (.string s) (.slice none 0 0) (.map none) (.slice none 0 0) H0.out
  refine bodyPost_ret (v := .agg #[.bool b, .bool false, .bool b, .bool false, .int .u8 k, .string s, .slice none 0 0, .map none, .slice none 0 0]) ?_ rfl ⟨rfl, ?_⟩
  · simp [results, Tryd.results59, go_sem, cell_heap hF 0 _ rfl, cell_heap hF 1 _ rfl, cell_heap hF 2 _ rfl, cell_heap hF 3 _ rfl, cell_heap hF 4 _ rfl, cell_heap hF 5 _ rfl, cell_heap hF 6 _ rfl, cell_heap hF 7 _ rfl, cell_heap hF 8 _ rfl]
  · exact ((((((((BB.out.setCell (by simp) _).setCell (by simp) _).setCell (by simp) _).setCell (by simp) _).setCell (by simp) _).setCell (by simp) _).setCell (by simp) _).setCell (by simp) _).setCell (by simp) _

theorem texts_below {w W : World} {v : Value} {P : List ByteArray} (hv : Texts w v P) (hB : Below w.heap.size w W) : Texts W v P := by
  obtain ⟨a, c, hv', hc⟩ := hv
  refine ⟨a, c, hv', fun hne => ?_⟩
  obtain ⟨b, off, ha, hb, hcell⟩ := hc hne
  exact ⟨b, off, ha, by have := hB.size; omega, fun j hj => by rw [World.cell?_of_block (w := w) (hB.block b hb)]; exact hcell j hj⟩

theorem small_mem {P : List ByteArray} (hS : Small P) : ∀ s ∈ P, s.size ≤ 1048576 := fun s hs => by
  obtain ⟨j, hj, rfl⟩ := List.mem_iff_getElem.1 hs
  have := hS.2 j hj
  simpa [List.getD, List.getElem?_eq_getElem hj] using this

theorem get59 (v : Value) (P : List ByteArray) (q : ByteArray) (w : World) (hv : Texts w v P) (hS : Small P) (sq : q.size ≤ 1048576) (hq : 61 ∉ q.data.toList) :
    Calls Tryd.prog 59 #[.bool false, v, .string q] w fun e w' => e = .returned (answer (Envp.look (P.map (·.data.toList)) q.data.toList) q.size) ∧ Below w.heap.size w w' := by
  have hb := small_mem hS
  obtain ⟨b, k, s, hans⟩ := answer_form (Envp.look (P.map (·.data.toList)) q.data.toList) q.size
  rw [hans]
  refine get59_core v q w b k s (fun sv W0 W => ∃ R, Envp.Env (P.map (·.data.toList)) R ∧ RowAt W W0.heap.size sv R) (Lib.hid fun W hB => ?_) (Lib.hid fun sv W0 W hI => ?_)
  · refine (env_any v P W (texts_below hv hB) (fun s hs => by have := hb s hs; omega) hS.1).mono ?_
    rintro e w' ⟨sv, R, rfl, hE, hB2, hR⟩
    exact ⟨sv, rfl, ⟨R, hE, hR⟩, hB2⟩
  · obtain ⟨R, hE, hR⟩ := hI
    rw [← hans]
    refine get_any _ R q W _ sv hE hR (fun x hx => ?_) ?_ (by omega) hq
    · obtain ⟨s, hs, rfl⟩ := List.mem_map.1 hx
      have := hb s hs
      rw [Array.length_toList]; show s.size ≤ _; omega
    · have h1 := env_length hE
      have h2 := hS.1
      rw [List.length_map] at h1
      omega
end Go.Proofs.YthihppocokkoiaaDoor
