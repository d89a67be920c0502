/-
  The environment's Get, case-sensitive, at every row: the variable of the last pair of that name, or the zero variable. Conditions: at most 2 to the 30 pairs of at most 2 to the 30 bytes, the name without '='.
-/
import Derived.Test.YthihppocokkoiaaDoorGetF
namespace Go.Proofs.YthihppocokkoiaaDoor
set_option linter.unusedVariables false
open Go.Shelf Go.RowKit Go.Lib Go.Sort

/-- what Get answers: the text behind the name and its '=', or the zero variable -/
def answer (o : Option (List UInt8)) (k : Nat) : Value :=
  match o with
  | none => zeroVar
  | some x => strVar ((⟨x.toArray⟩ : ByteArray).extract (k + 1) (⟨x.toArray⟩ : ByteArray).size)

theorem holds_below {W W' : World} {B g : Nat} {d : Array (List UInt8)} (h : Holds encStr W g 0 d) (b : Below B W W') (hg : g < B) : Holds encStr W' g 0 d := fun j hj => by
  rw [World.cell?_of_block (w := W) (b.block g hg), World.frozen?_of_block (w := W) (b.block g hg)]; exact h j hj

theorem name_len {x q : List UInt8} (h : Envp.isName q x = true) : q.length + 1 ≤ x.length := by
  unfold Envp.isName at h
  simp only [Bool.and_eq_true, beq_iff_eq] at h
  obtain ⟨h1, h2, h3, h4⟩ := Envp.key_valid h.1
  rw [h.2] at h4
  rw [h4]; simp

theorem get_any (L R : List (List UInt8)) (q : ByteArray) (w : World) (B : Nat) (sv : Value) (hE : Envp.Env L R) (hR : RowAt w B sv R) (hb : ∀ x ∈ L, x.length ≤ 1073741824) (hn : R.length ≤ 1073741824) (sq : q.size ≤ 1073741824) (hq : 61 ∉ q.data.toList) :
    Calls Tryd.prog 141 #[.agg #[.bool false, sv], .string q] w fun e w' => e = .returned (answer (Envp.look L q.data.toList) q.size) ∧ Below w.heap.size w w' := by
  have hans := hE.ans q.data.toList
  obtain ⟨a, cap, hsv, hcap, hm, hrow⟩ := hR
  have hbR : ∀ x ∈ R, x.length ≤ 1073741824 := fun x hx => hb x (hE.valid x hx).1
  have hv : ∀ y ∈ R, Envp.valid y = true := fun y hy => (hE.valid y hy).2
  have S : R ≠ [] → ∃ g, a = some ⟨g, 0, none⟩ ∧ g < w.heap.size ∧ Holds encStr w g 0 R.toArray ∧ ∀ W, Below w.heap.size w W → W.heap.size = w.heap.size + 4 → W.cell? ⟨w.heap.size, 0, none⟩ = some (.bool false) → W.cell? ⟨w.heap.size, 1, none⟩ = some sv → W.cell? ⟨w.heap.size + 1 + 1, 0, none⟩ = some (.int .i64 q.size) → W.cell? ⟨w.heap.size + 1 + 1 + 1, 0, none⟩ = some (.int .i64 ((q.size : Int) + 1)) →
      Calls Tryd.prog 142 #[sv, .string q, .func (.func 143) #[] #[.pointer (some ⟨w.heap.size + 1 + 1 + 1, 0, none⟩), .pointer (some ⟨w.heap.size, 0, none⟩), .pointer (some ⟨w.heap.size + 1 + 1, 0, none⟩)]] W (SearchOut R q.data.toList W) := by
    intro hne
    obtain ⟨g, rfl, _, hg, hH⟩ := hrow hne
    refine ⟨g, rfl, hg, hH, fun W hW h4 c0 c1 cq ce => ?_⟩
    rw [hsv] at c1 ⊢
    exact search_s R q W g cap (w.heap.size + 1 + 1 + 1) w.heap.size (w.heap.size + 1 + 1) _ hne (holds_below hH hW hg) (by omega) hbR hn sq hE.inc hv hq
      (by omega) (by omega) (by omega) (by omega) (by omega) (by omega) ce c0 c1 cq
  cases hl : Envp.look L q.data.toList with
  | none =>
    rw [hl] at hans
    refine get_none_w sv q w sq (Lib.hid fun W hW h4 c0 c1 cq ce => ?_)
    by_cases hne : R = []
    · subst hne
      rw [hsv]
      refine (Tryd.slices_BinarySearchFunc_none a cap (.string q) _ W).mono ?_
      rintro e w' ⟨rfl, rfl⟩
      exact ⟨⟨0, rfl⟩, Below.refl _ _⟩
    · obtain ⟨g, _, _, _, hS⟩ := S hne
      refine (hS W hW h4 c0 c1 cq ce).mono ?_
      rintro e w' ⟨i, b, rfl, hF, hB⟩
      rcases hF with ⟨_, hi, hf, _⟩ | ⟨rfl, _⟩
      · rw [hans] at hf; cases hf
      · exact ⟨⟨i, rfl⟩, hB⟩
  | some x =>
    rw [hl] at hans
    have hx : x ∈ R := by
      have : x ∈ R.filter (Envp.isName q.data.toList) := by rw [hans]; simp
      exact (List.mem_filter.1 this).1
    have hnx : Envp.isName q.data.toList x = true := by
      have : x ∈ R.filter (Envp.isName q.data.toList) := by rw [hans]; simp
      exact (List.mem_filter.1 this).2
    have hne : R ≠ [] := by rintro rfl; cases hx
    obtain ⟨g, rfl, hg, hH, hS⟩ := S hne
    obtain ⟨i, hi, hix⟩ := List.mem_iff_getElem.1 hx
    refine get_found_w g R.length cap sv hsv q ⟨x.toArray⟩ w sq i hi hg ?_ ?_ hcap hm (Lib.hid fun W hW h4 c0 c1 cq ce => ?_)
    · have := hH i (by simpa using hi)
      rw [getElem!_pos _ i (by simpa using hi)] at this
      simpa [encStr, hix] using this.1
    · have := name_len hnx
      have e1 : (⟨x.toArray⟩ : ByteArray).size = x.length := by simp only [ByteArray.size, List.size_toArray]
      have e2 : q.data.toList.length = q.size := by rw [Array.length_toList]; rfl
      rw [e1, ← e2]; exact this
    · refine (hS W hW h4 c0 c1 cq ce).mono ?_
      rintro e w' ⟨i', b, rfl, hF, hB⟩
      rcases hF with ⟨rfl, hi', hf, _⟩ | ⟨_, hf⟩
      · rw [hans] at hf
        have hx' : x = R[i'] := by simpa using hf
        have : i' = i := by
          have inc := hE.inc
          rw [List.pairwise_iff_getElem] at inc
          rcases Nat.lt_trichotomy i' i with c | c | c
          · have := inc i' i hi' hi c
            rw [hix, ← hx'] at this
            exact absurd this (Envp.blt_irr _)
          · exact c
          · have := inc i i' hi hi' c
            rw [hix, ← hx'] at this
            exact absurd this (Envp.blt_irr _)
        subst this
        exact ⟨rfl, hB⟩
      · rw [hans] at hf; cases hf
end Go.Proofs.YthihppocokkoiaaDoor
