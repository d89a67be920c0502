/-
  PROVED HERE: for every two texts the law FnCharClassElementIsFixedByItsPrefix returns true and leaves its arguments alone: the told card 'Rows.FnCharClassElementIsFixedByItsPrefixToldSaid'. No condition of ours; fmt's texts are told by the kit's own function and nothing is said of them.
-/
import Derived.Test.YtopaaaacbegmnaaFmtLawC
import Derived.Test.YtopaaaacbegmnaaFmtCase
namespace Go.Proofs.YtopaaaacbegmnaaFmt
set_option linter.unusedVariables false
open Go.ChangeShapes Go.WideShapes Go.ChangeAt Go.RowKit Go.Kit Go.Lib
open Go.ChangeMaps (open_string shut_string)
open Go.Extern.Stop Go.Stop Go.Extern

theorem law4_all (F : Interp) (s t : ByteArray) (w : World) (hF : F.answers w.tape) (hs' : s.size ≤ maxLen) (ht' : t.size ≤ maxLen) : Calls Tryf.prog 4 #[.string s, .string t] w (Yes w) := by
  by_cases hz : 1048576 < s.size + t.size
  · exact law4_size s t w hs' ht' hz
  by_cases hb : 131072 < s.size
  · exact law4_bigs s t w (by omega) hb
  by_cases hb2 : 131072 < t.size
  · exact law4_bigt s t w (by omega) (by omega) hb2
  have hs : s.size ≤ 131072 := by omega
  have ht : t.size ≤ 131072 := by omega
  by_cases h0 : 0 < s.size
  · have hp := Pl.head_piece s h0
    have hT : (s.extract 1 s.size).size = s.size - 1 := by simp
    have hT2 : ((s ++ t).extract 1 (s ++ t).size).size = s.size + t.size - 1 := by simp
    have z0 : 0 < (s ++ t).size := by rw [Pl.size_app]; omega
    have hh := Pl.head_app s t h0 z0
    have hp2 := Pl.head_piece (s ++ t) z0
    by_cases c46 : ((s[0].toNat : Nat) : Int) = 46
    · rcases Pl.idx_cases (s.extract 1 s.size) ⟨#[46, 93]⟩ with h | ⟨i, h, hi⟩
      · exact law4_no46 F s t w hF hs ht h0 c46 h
      · have hi' : i + 2 ≤ (s.extract 1 s.size).size := hi
        have hx := Pl.idx_hit s 46 (by omega) i (by omega) h
        exact law4_yes46 F s t w hF hs ht h0 c46 i (by omega) (by omega) hx.1 hx.2 hi' h ⟨z0, by rw [hh]; exact c46⟩ (by omega) (Pl.idx_app s t 46 (by omega) i h)
    by_cases c61 : ((s[0].toNat : Nat) : Int) = 61
    · rcases Pl.idx_cases (s.extract 1 s.size) ⟨#[61, 93]⟩ with h | ⟨i, h, hi⟩
      · exact law4_no61 F s t w hF hs ht h0 c61 h
      · have hi' : i + 2 ≤ (s.extract 1 s.size).size := hi
        have hx := Pl.idx_hit s 61 (by omega) i (by omega) h
        exact law4_yes61 F s t w hF hs ht h0 c61 i (by omega) (by omega) hx.1 hx.2 hi' h ⟨z0, by rw [hh]; exact c61⟩ (by omega) (Pl.idx_app s t 61 (by omega) i h)
    by_cases c58 : ((s[0].toNat : Nat) : Int) = 58
    · have hp' : ((s.extract 0 1).toList == [58]) = true := by rw [hp, beq_iff_eq]; exact c58
      have hp2' : (((s ++ t).extract 0 1).toList == [58]) = true := by rw [hp2, hh, beq_iff_eq]; exact c58
      rcases Pl.idx_cases (s.extract 1 s.size) ⟨#[58, 93]⟩ with h | ⟨i, h, hi⟩
      · exact law4_no58 F s t w hF hs ht h0 c58 hp' h
      · have hi' : i + 2 ≤ (s.extract 1 s.size).size := hi
        have hx := Pl.idx_hit s 58 (by omega) i (by omega) h
        have HB' := Pl.piece_app s t i (by omega)
        by_cases hc : ∃ l, l ∈ Pl.classes ∧ (((s.extract 1 s.size).extract 0 i).toList == l) = true
        · obtain ⟨l, hl, hbl⟩ := hc
          exact law4_good s t w hs ht h0 c58 i (by omega) (by omega) hx.1 hx.2 hi' h ⟨z0, by rw [hh]; exact c58⟩ (by omega) (Pl.idx_app s t 58 (by omega) i h) hp' hp2' _ rfl HB'.symm l hl (bytes_of_list hbl)
        · exact law4_bad F s t w hF hs ht h0 c58 i (by omega) (by omega) hx.1 hx.2 hi' h ⟨z0, by rw [hh]; exact c58⟩ (by omega) (Pl.idx_app s t 58 (by omega) i h) hp' hp2' _ rfl HB'.symm (fun l hl => by
            cases e : (((s.extract 1 s.size).extract 0 i).toList == l)
            · rfl
            · exact absurd ⟨l, hl, e⟩ hc)
    · have f : ∀ k : Int, ¬ ((s[0].toNat : Nat) : Int) = k → (((s[0].toNat : Nat) : Int) == k) = false := fun k h => beq_eq_false_iff_ne.2 h
      exact law4_plain s t w hs ht h0 (f _ c46) (f _ c61) (f _ c58) (by rw [hp]; exact f _ c58)
  · have : s = ⟨#[]⟩ := by
      apply ByteArray.ext
      apply Array.eq_empty_of_size_eq_zero
      have : s.data.size = s.size := rfl
      omega
    rw [this]
    exact law4_empty t w ht

set_option maxRecDepth 100000 in
theorem fixed_lifted (os : Os) (started : os.Started) (H : Type) (enc : TypeId × Value → H) :
    ReturnsInTold none {} Tryf.checked os 4 .any Input.okWide ((OpenSpec.ofChange Rows.fnCharClassElementIsFixedByItsPrefixSpec).preRow enc Tryf.prog Tryf.f4 [] false []) (fun F => ((OpenSpec.ofChange Rows.fnCharClassElementIsFixedByItsPrefixSpec).at F).post enc Tryf.prog Tryf.f4 false true false false) (aloneAtReturn Tryf.prog) nothingAlways := by
  refine returnsInTold_of_row (C := Tryf.checked) (s := OpenSpec.ofChange Rows.fnCharClassElementIsFixedByItsPrefixSpec) (by kernel_rfl) own started (by kernel_rfl) Tryf.func4
    (OpenSpec.witness_stopped (enc := enc) (C := Tryf.checked) false ⟨#[], #[.string ⟨#[]⟩, .string ⟨#[]⟩], []⟩ 8 (by kernel_rfl) (by kernel_rfl) (by kernel_rfl) (by kernel_rfl)) ?_
  intro F W base args ds gs before _ hF hval0 hW _ _ _ _ _
  have hval : ∀ (j : Nat) t v, Tryf.f4.params[j]? = some t → args[j]? = some v → Value.okWide Tryf.prog W .any base t v := hval0
  have hW' := hW
  obtain ⟨p, q, hA0, hV, rfl, hfz, hnd⟩ := hW
  have hA : DataW.TrodAll enc Tryf.prog W 0 (fun _ => true) true Tryf.f4.params.toList args.toList ds p := hA0
  rw [Tryf.params4] at hA hval
  obtain ⟨v0, v1, d0, d1, p0, p1, rfl, rfl, rfl, h0, h1⟩ := trodAll_two hA
  obtain ⟨rfl, rfl⟩ := trodVars_none hV
  obtain ⟨s, rfl, rfl, rfl, hs⟩ := open_string Tryf.underlying9 (hval 0 9 v0 rfl rfl) h0
  obtain ⟨t, rfl, rfl, rfl, ht⟩ := open_string Tryf.underlying9 (hval 1 9 v1 rfl rfl) h1
  clear hA0 hval0
  refine (law4_all F.told s t W hF hs ht).mono fun e W' ⟨he, bel⟩ => ?_
  subst he
  exact ⟨_, rfl, _, _, _, [], _, [], hW', trodAll_mk1 (shut_bool Tryf.underlying4 _), trodAll_mk2 (shut_string Tryf.underlying9 hs) (shut_string Tryf.underlying9 ht), rfl, bel.frame _, fun h => by cases h⟩

theorem fixed_told : Rows.FnCharClassElementIsFixedByItsPrefixToldSaid :=
  Claim7.holds_of_told_any 4 Tryf.f4 "fmt.errorf" [] [] _ _ _ (by kernel_rfl) rfl rfl rfl laidOut7 (by kernel_rfl) rfl ⟨rfl, rfl, rfl, rfl, rfl, rfl, rfl⟩ rfl rfl (by kernel_rfl) (by kernel_rfl) Tryf.func4 (by kernel_rfl)
    (of_decide_eq_true (by kernel_rfl)) (by unfold Func.isWrapper; first | (rw [if_pos (by decide +kernel)]; kernel_rfl) | (rw [if_neg (by decide +kernel)]; exact ⟨rfl, rfl⟩)) stops7.symm rfl stopKnobs7.symm (by kernel_rfl)
    (by kernel_rfl) (by kernel_rfl) (by kernel_rfl) (by kernel_rfl) (by kernel_rfl) (by kernel_rfl) (by kernel_rfl) (by kernel_rfl) (by kernel_rfl) rfl (by kernel_rfl) rfl rfl
    rfl rfl
    rfl (by kernel_rfl) (by kernel_rfl) (by kernel_rfl) (by decide) (by kernel_rfl)
    (OpenClaim.moreEntering_of (by kernel_rfl) (by kernel_rfl) (by kernel_rfl) (by kernel_rfl) (by kernel_rfl) (by kernel_rfl) (by kernel_rfl) (by kernel_rfl) (by kernel_rfl) (by kernel_rfl))
    ⟨_, WideRow.started_initial, quiet7 _⟩
    (fun os started _ H enc _ => fixed_lifted os started H enc)
#print axioms fixed_told
end Go.Proofs.YtopaaaacbegmnaaFmt
