/-
  Get of the environment that listEnviron_ makes, case-insensitive: the look at the folded pairs. Conditions: ASCII names, an ASCII query without '='; the three tables.
-/
import Derived.Test.YthihppocokkoiaaDoorGetFT
namespace Go.Proofs.YthihppocokkoiaaDoor
set_option linter.unusedVariables false
open Go.Shelf Go.RowKit Go.Lib Go.Sort

theorem env_sub {L R : List (List UInt8)} (h : EnvListT L R) : ∀ y ∈ R, y ∈ L ∧ Envp.valid y = true := by
  obtain ⟨M, hM, rfl⟩ := h
  exact (dd_any Lib.toUpperD L M [] [] (fun y hy => by cases hy) hM.mem).1
theorem fold_form {x : List UInt8} (h : AsciiKey x) (hv : Envp.valid x = true) : foldP x = (Envp.nameOf x).map Lib.upperB ++ 61 :: Envp.valOf x := by
  obtain ⟨k1, _, _, k4⟩ := Envp.key_valid hv
  unfold foldP
  rw [keyU_map h]
  obtain ⟨n, hn⟩ : ∃ n, n = Envp.nameOf x := ⟨_, rfl⟩
  obtain ⟨v, hv2⟩ : ∃ v, v = Envp.valOf x := ⟨_, rfl⟩
  rw [← hn, ← hv2] at k4
  rw [← hn] at k1
  rw [← hn, ← hv2, k1, List.map_append]
  have : x.drop (n ++ [61]).length = v := by rw [k4]; simp
  rw [this, List.append_assoc]
  rfl
theorem fold_cmp {x q : List UInt8} (h : AsciiKey x) (hv : Envp.valid x = true) (hq : 61 ∉ q) (aq : ∀ b ∈ q, b.toNat < 128) : getCmpU x q = Envp.getCmp (foldP x) (Lib.toUpperD q) := by
  obtain ⟨k1, k2, _, k4⟩ := Envp.key_valid hv
  have an : ∀ b ∈ Envp.nameOf x, b.toNat < 128 := fun b hb => h b (by rw [k1]; simp [hb])
  have := getCmpU_fold (Envp.nameOf x) q (Envp.valOf x) k2 hq an aq
  rw [← k4, ← fold_form h hv] at this
  exact this
theorem fold_len {x : List UInt8} (h : AsciiKey x) (hv : Envp.valid x = true) : (foldP x).length = x.length := by
  obtain ⟨_, _, _, k4⟩ := Envp.key_valid hv
  have := congrArg List.length k4
  rw [fold_form h hv]
  simp at this ⊢
  omega
theorem fold_text {x : List UInt8} {i : Nat} (h : AsciiKey x) (hv : Envp.valid x = true) (hi : Envp.eqAt x = i) : (⟨(foldP x).toArray⟩ : ByteArray).extract (i + 1) (⟨(foldP x).toArray⟩ : ByteArray).size = (⟨x.toArray⟩ : ByteArray).extract (i + 1) (⟨x.toArray⟩ : ByteArray).size := by
  rw [← (cut_named hi).2, ← (cut_named (x := foldP x) (by rw [(fold_facts h).1]; exact hi)).2]
  unfold valB
  rw [(fold_name h hv).2]
theorem name_at {x q : List UInt8} (hv : Envp.valid x = true) (hn : Envp.nameOf x = q) : Envp.eqAt x = (q.length : Int) := by
  obtain ⟨i, hi, _⟩ := Envp.valid_at hv
  have hl := (Envp.split_of hi).2.2
  have := congrArg List.length hn
  unfold Envp.nameOf at this
  rw [hi, Int.toNat_natCast, List.length_take, Nat.min_eq_left (by omega)] at this
  rw [hi, this]
theorem get_anyT (L R : List (List UInt8)) (q : ByteArray) (w : World) (B : Nat) (sv : Value) (hET : EnvListT L R) (hA : ∀ x ∈ L, AsciiKey x) (aq : ∀ b ∈ q.data.toList, b.toNat < 128) (hTU : TabB B w) (hR : RowAt w B sv R) (hb : ∀ x ∈ L, x.length ≤ 1073741824) (hn : R.length ≤ 1073741824) (sq : q.size ≤ 1073741824) (hq : 61 ∉ q.data.toList) :
    Calls Tryd.prog 141 #[.agg #[.bool true, sv], .string q] w fun e w' => e = .returned (answer (Envp.look (L.map foldP) (Lib.toUpperD q.data.toList)) q.size) ∧ Below w.heap.size w w' := by
  have hE := env_folded hET hA
  have hans := hE.ans (Lib.toUpperD q.data.toList)
  have uq : Lib.toUpperD q.data.toList = q.data.toList.map Lib.upperB := by rw [Lib.toUpperD_ascii _ aq]; rfl
  have hQ : 61 ∉ Lib.toUpperD q.data.toList := by rw [uq]; exact no61_map hq
  have hAR : ∀ x ∈ R, AsciiKey x := fun x hx => hA x (env_sub hET x hx).1
  have FC : ∀ x ∈ R, getCmpU x q.data.toList = Envp.getCmp (foldP x) (Lib.toUpperD q.data.toList) := fun x hx => fold_cmp (hAR x hx) (env_sub hET x hx).2 hq aq
  obtain ⟨a, cap, hsv, hcap, hm, hrow⟩ := hR
  have hbR : ∀ x ∈ R, x.length ≤ 1073741824 := fun x hx => hb x (env_sub hET x hx).1
  have hv : ∀ y ∈ R.map foldP, Envp.valid y = true := fun y hy => (hE.valid y hy).2
  have S : R ≠ [] → ∃ g, a = some ⟨g, 0, none⟩ ∧ g < w.heap.size ∧ Holds encStr w g 0 R.toArray ∧ ∀ W, Below w.heap.size w W → W.heap.size = w.heap.size + 4 → W.cell? ⟨w.heap.size, 0, none⟩ = some (.bool true) → W.cell? ⟨w.heap.size, 1, none⟩ = some sv → W.cell? ⟨w.heap.size + 1 + 1, 0, none⟩ = some (.int .i64 q.size) → W.cell? ⟨w.heap.size + 1 + 1 + 1, 0, none⟩ = some (.int .i64 ((q.size : Int) + 1)) →
      Calls Tryd.prog 142 #[sv, .string q, .func (.func 143) #[] #[.pointer (some ⟨w.heap.size + 1 + 1 + 1, 0, none⟩), .pointer (some ⟨w.heap.size, 0, none⟩), .pointer (some ⟨w.heap.size + 1 + 1, 0, none⟩)]] W (SearchOutT R (Lib.toUpperD q.data.toList) W) := by
    intro hne
    obtain ⟨g, rfl, hgB, hg, hH⟩ := hrow hne
    refine ⟨g, rfl, hg, hH, fun W hW h4 c0 c1 cq ce => ?_⟩
    rw [hsv] at c1 ⊢
    exact search_sT R q _ FC W g cap (w.heap.size + 1 + 1 + 1) w.heap.size (w.heap.size + 1 + 1) _ hne (holds_below hH hW hg) (by omega) hbR hn sq hE.inc hv hQ (by obtain ⟨w0, t1, t2, t3⟩ := hTU; exact ⟨w0, t1, by omega, t3.trans (hW.mono t3.size)⟩)
      (by omega) (by omega) (by omega) (by omega) (by omega) (by omega) ce c0 c1 cq
  cases hl : Envp.look (L.map foldP) (Lib.toUpperD q.data.toList) with
  | none =>
    rw [hl] at hans
    refine get_none_wT sv q w sq (Lib.hid fun W hW h4 c0 c1 cq ce => ?_)
    by_cases hne : R = []
    · subst hne
      rw [hsv]
      refine (Tryd.slices_BinarySearchFunc_none a cap (.string q) _ W).mono ?_
      rintro e w' ⟨rfl, rfl⟩
      exact ⟨⟨0, rfl⟩, Below.refl _ _⟩
    · obtain ⟨g, _, _, _, hS⟩ := S hne
      refine (hS W hW h4 c0 c1 cq ce).mono ?_
      rintro e w' ⟨i, b, rfl, hF, hB⟩
      rcases hF with ⟨_, hi, hf, _⟩ | ⟨rfl, _⟩
      · rw [hans] at hf; cases hf
      · exact ⟨⟨i, rfl⟩, hB⟩
  | some y =>
    rw [hl] at hans
    have hy : y ∈ R.map foldP := by
      have : y ∈ (R.map foldP).filter (Envp.isName (Lib.toUpperD q.data.toList)) := by rw [hans]; simp
      exact (List.mem_filter.1 this).1
    have hnx : Envp.isName (Lib.toUpperD q.data.toList) y = true := by
      have : y ∈ (R.map foldP).filter (Envp.isName (Lib.toUpperD q.data.toList)) := by rw [hans]; simp
      exact (List.mem_filter.1 this).2
    obtain ⟨x, hx, rfl⟩ := List.mem_map.1 hy
    have hat : Envp.eqAt x = (q.size : Int) := by
      unfold Envp.isName at hnx
      simp only [Bool.and_eq_true, beq_iff_eq] at hnx
      have h1 := name_at hnx.1 hnx.2
      rw [(fold_facts (hAR x hx)).1, uq, List.length_map] at h1
      rw [h1, Array.length_toList]; rfl
    have hfx := fold_text (hAR x hx) (env_sub hET x hx).2 hat
    have ea : answer (some (foldP x)) q.size = strVar ((⟨x.toArray⟩ : ByteArray).extract (q.size + 1) (⟨x.toArray⟩ : ByteArray).size) := by
      show strVar _ = _
      rw [hfx]
    rw [ea]
    have hne : R ≠ [] := by rintro rfl; cases hx
    obtain ⟨g, rfl, hg, hH, hS⟩ := S hne
    obtain ⟨i, hi, hix⟩ := List.mem_iff_getElem.1 hx
    refine get_found_wT g R.length cap sv hsv q ⟨x.toArray⟩ w sq i hi hg ?_ ?_ hcap hm (Lib.hid fun W hW h4 c0 c1 cq ce => ?_)
    · have := hH i (by simpa using hi)
      rw [getElem!_pos _ i (by simpa using hi)] at this
      simpa [encStr, hix] using this.1
    · have := (Envp.split_of hat).2.2
      have e1 : (⟨x.toArray⟩ : ByteArray).size = x.length := by simp only [ByteArray.size, List.size_toArray]
      rw [e1]; omega
    · refine (hS W hW h4 c0 c1 cq ce).mono ?_
      rintro e w' ⟨i', b, rfl, hF, hB⟩
      rcases hF with ⟨rfl, hi', hf, _⟩ | ⟨_, hf⟩
      · rw [hans] at hf
        have hx' : foldP x = foldP R[i'] := by simpa using hf
        have : i' = i := by
          have inc := hE.inc
          rw [List.pairwise_iff_getElem] at inc
          rcases Nat.lt_trichotomy i' i with c | c | c
          · have := inc i' i (by rw [List.length_map]; exact hi') (by rw [List.length_map]; exact hi) c
            rw [List.getElem_map, List.getElem_map, hix, ← hx'] at this
            exact absurd this (Envp.blt_irr _)
          · exact c
          · have := inc i i' (by rw [List.length_map]; exact hi) (by rw [List.length_map]; exact hi') c
            rw [List.getElem_map, List.getElem_map, hix, ← hx'] at this
            exact absurd this (Envp.blt_irr _)
        subst this
        exact ⟨rfl, hB⟩
      · rw [hans] at hf; cases hf
end Go.Proofs.YthihppocokkoiaaDoor
