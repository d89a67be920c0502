/-
  A Config over a list of texts, and envGet on it, in the words of the plain law. Conditions: at most 2 to the 20 texts of at most 2 to the 30 bytes, names without '='.
-/
import Derived.Test.YthihppocokkoiaaDoorLwL
namespace Go.Proofs.YthihppocokkoiaaDoor
set_option linter.unusedVariables false
open Go.Shelf Go.RowKit Go.Lib Go.Sort

set_option maxRecDepth 20000 in
set_option maxHeartbeats 1000000 in
theorem cfg28 (v : Value) (P : List ByteArray) (w : World) (hv : Texts w v P) (hP : ∀ s ∈ P, s.size ≤ 1073741824) (hn : P.length ≤ 1048576) : Calls Tryd.prog 28 #[v] w (CfgOut w (P.map (·.data.toList))) := by
  have ENV := Lib.hid (env_any v P w hv hP hn)
  clear hv hP hn
  go_enter Tryd.func28, Tryd.ntmps28
  go_wp2_with (first | (go_at_call 66; go_must (refine ENV.out.mono ?_); rintro e w2 ⟨sv, R, rfl, hE, hB2, hR⟩; have HI := Lib.hid (And.intro hE (And.intro hB2 hR)); clear hE hR hB2 ENV))
  go_ret
  have hb : ∀ o, Below w2.heap.size w2 (w2.alloc o) := fun o => (Below.refl _ _).alloc (Nat.le_refl _) o
  refine ⟨sv, R, w2.heap.size, rfl, HI.out.1, rowat_below HI.out.2.2 (hb _), ?_, HI.out.2.1.size, ?_, HI.out.2.1.alloc HI.out.2.1.size _⟩
  · refine cell_heap (by show (w2.heap.push _)[w2.heap.size]? = _; exact Array.getElem?_push_size) 0 _ rfl
  · show w2.heap.size < (w2.heap.push _).size
    rw [Array.size_push]; omega

theorem cfg_get {L : List (List UInt8)} {W0 W : World} {e : Ending} (h : CfgOut W0 L e W) (hL : ∀ x ∈ L, x.length ≤ 1073741824) (hn : L.length ≤ 1073741824) :
    ∃ g, e = .returned (.pointer (some ⟨g, 0, none⟩)) ∧ Below W0.heap.size W0 W ∧ ∀ (q : ByteArray) (W' : World), q.size ≤ 1048576 → 61 ∉ q.data.toList → Below W.heap.size W W' →
      Calls Tryd.prog 29 #[.pointer (some ⟨g, 0, none⟩), .string q] W' fun e w' => e = .returned (.string (ansText (Envp.look L q.data.toList) q.size)) ∧ Below W'.heap.size W' w' := by
  obtain ⟨sv, R, g, he, hE, hR, hcell, hg1, hg2, hB⟩ := h
  refine ⟨g, he, hB, fun q W' sq hq hb => env29 g q _ W' (Lib.hid ?_)⟩
  refine env67 g sv q _ _ W' (by rw [World.cell?_of_block (w := W) (hb.block g hg2)]; exact hcell) (Lib.hid fun W2 hb2 => get_any L R q W2 _ sv hE (rowat_below hR (hb.trans (hb2.mono hb.size))) hL (by have := env_length hE; omega) (by omega) hq) (Lib.hid fun W2 => str_answer _ _ W2)
end Go.Proofs.YthihppocokkoiaaDoor
