/-
  The walk of FnNamesByPrefixModel. Conditions: those in each theorem.
-/
import Derived.Test.YtmbjhfkpmgkkbaaGreatDoorNm
namespace Go.Proofs.YtmbjhfkpmgkkbaaGreatDoor
set_option linter.unusedVariables false
open Go.Shelf Go.RowKit Go.Lib Go.Sort

theorem small_bytes {P : List ByteArray} (hS : Small P) : ∀ x ∈ P.map (·.data.toList), x.length ≤ 1048576 := fun x hx => by
  obtain ⟨s, hs, rfl⟩ := List.mem_map.1 hx
  have := small_mem hS s hs
  rw [Array.length_toList]; exact this
/-- a list environment's list, as namesByPrefix wants it -/
theorem env_good {P : List ByteArray} {R : List (List UInt8)} (hS : Small P) (hE : Envp.Env (P.map (·.data.toList)) R) : (∀ y ∈ R, Envp.valid y = true) ∧ (∀ y ∈ R, y.length ≤ 1073741824) ∧ R.length ≤ 1048576 := by
  refine ⟨fun y hy => (hE.valid y hy).2, fun y hy => ?_, ?_⟩
  · have := small_bytes hS y (hE.valid y hy).1; omega
  · have h1 := env_length hE
    have h2 := hS.1
    rw [List.length_map] at h1
    omega
/-- from a Config to namesByPrefix's answer -/
theorem cfg_names {P : List ByteArray} {W0 W : World} {e : Ending} (h : CfgOut W0 (P.map (·.data.toList)) e W) (hS : Small P) :
    ∃ g R, e = .returned (.pointer (some ⟨g, 0, none⟩)) ∧ Envp.Env (P.map (·.data.toList)) R ∧ Below W0.heap.size W0 W ∧ ∀ (p : ByteArray) (W' : World), Below W.heap.size W W' → Calls Tryz.prog 9 #[.pointer (some ⟨g, 0, none⟩), .string p] W' (NamesOut W' R p.data.toList) := by
  obtain ⟨sv, R, g, he, hE, hR, hcell, hg1, hg2, hB⟩ := h
  refine ⟨g, R, he, hE, hB, fun p W' hb => ?_⟩
  obtain ⟨g1, g2, g3⟩ := env_good hS hE
  exact door9 g W0.heap.size sv R p W' (by rw [World.cell?_of_block (w := W) (hb.block g hg2)]; exact hcell) (by have := hb.size; omega) (rowat_below hR hb) g1 g2 g3

theorem names_length {L R : List (List UInt8)} (hE : Envp.Env L R) (p : List UInt8) : (Nbp.named R p).length ≤ R.length := by
  unfold Nbp.named
  rw [List.length_mergeSort]
  exact Nat.le_trans (List.length_filter_le _ _) (by simp)

set_option maxRecDepth 20000 in
set_option maxHeartbeats 4000000 in
theorem law3 (a : Option Addr) (c : Nat) (P : List ByteArray) (q : ByteArray) (w : World) (hv : Texts w (.slice a P.length c) P) :
    Calls Tryz.prog 3 #[.slice a P.length c, .string q] w fun e w' => e = .returned (.bool true) ∧ Below w.heap.size w w' := by
  have q22 : ∀ (w : World) (a : Option Addr) (n c n' c' : Nat), (binOp .eql 22 (.slice a n c) (.slice none n' c')).run Tryz.prog w = .ok (.bool a.isNone) w := fun w a n c n' c' => Lib.run_eql_slice_nil w _ _ a n c n' c' Tryz.underlying22
  have B5 := Lib.hid (bytes5 a c P q w (texts_cells hv))
  have HV := Lib.hid hv
  clear hv
  go_enter Tryz.func3, Tryz.ntmps3
  by_cases hl : (4096 : Int) < (P.length : Int)
  · go_wp2_with (first | (go_at_call 5; go_must (refine B5.out.mono ?_); rintro e w' ⟨⟨b, rfl, hb⟩, rfl⟩; have HB := Lib.hid hb; clear hb B5))
    all_goals (go_ret; exact ⟨rfl, Below.refl _ _⟩)
  go_wp2_with (first | (go_at_call 5; go_must (refine B5.out.mono ?_); rintro e w' ⟨⟨b, rfl, hb⟩, rfl⟩; have HB := Lib.hid hb; clear hb B5))
  · go_ret; exact ⟨rfl, Below.refl _ _⟩
  have hb1 : (!b) = false := by assumption
  have hS := HB.out (by simpa using hb1)
  have HS := Lib.hid hS.1
  have hq : q.size ≤ 1048576 := hS.2
  clear HB hb1 hS
  refine (sum6 a c P w HS.out (by omega) (texts_cells HV.out)).mono ?_
  rintro e w' ⟨⟨n, rfl, hnb⟩, rfl⟩
  by_cases hsum : (1048576 : Int) < (n : Int) + (q.size : Int)
  · go_wp2
    go_ret
    exact ⟨rfl, Below.refl _ _⟩
  have hn : (P.length : Int) ≤ 1048576 := by have := HS.out.1; omega
  go_wp2_with (fail)
  refine (copy7 _ P w HV.out HS.out.1).mono ?_
  rintro e w1 ⟨⟨v', rfl, hT⟩, hB1⟩
  have ⟨a', c', hv', _⟩ := hT
  subst hv'
  have HT := Lib.hid hT
  have HB1 := Lib.hid hB1
  clear hT hB1 HV
  have C8 := Lib.hid (cfg8 _ P w1 HT.out (fun s hs => by have := small_mem HS.out s hs; omega) HS.out.1)
  go_wp2_with (fail)
  refine C8.out.mono ?_
  intro e w2 hC
  obtain ⟨g, R, rfl, hE, hB2, hN⟩ := cfg_names hC HS.out
  have HB2 := Lib.hid (HB1.out.trans (hB2.mono HB1.out.size))
  have HT2 := Lib.hid (texts_below HT.out hB2)
  have HE := Lib.hid hE
  have HN := Lib.hid (hN q w2 (Below.refl _ _))
  clear hC hE hB2 hN C8 HT HB1
  go_wp2_with (fail)
  refine HN.out.mono ?_
  rintro e w3 ⟨v3, rfl, hT3, hnil3, hB3⟩
  have HT3 := Lib.hid (texts_below HT2.out hB3)
  have M10 := Lib.hid (model10 a' c' P q w3 HT3.out HS.out)
  have HB3 := Lib.hid (HB2.out.trans (hB3.mono HB2.out.size))
  have HG := Lib.hid (And.intro hT3 hnil3)
  clear hT3 hnil3 hB3 HN HT2 HB2
  go_wp2_with (fail)
  refine M10.out.mono ?_
  rintro e w4 ⟨v4, O, rfl, hSt⟩
  have hON := hSt.mod.eq HE.out
  have hOl : O.length ≤ 1048576 := by
    rw [← hON]
    exact Nat.le_trans (names_length HE.out _) (env_good HS.out HE.out).2.2
  have hG1 := texts_below HG.out.1 hSt.below
  have hG2 := HG.out.2
  rw [hON] at hG1 hG2
  have hT4 := texts_own hSt.own
  have hnil4 := hSt.nil
  have HB4 := Lib.hid (HB3.out.trans (hSt.below.mono HB3.out.size))
  clear hSt hON HG M10 HB3 HT3 HE
  obtain ⟨OB, hOB⟩ : ∃ OB : List ByteArray, OB = O.map fun x => ⟨x.toArray⟩ := ⟨_, rfl⟩
  rw [← hOB] at hG1 hT4
  have hOBl : OB.length = O.length := by rw [hOB]; simp
  by_cases h0 : O = []
  · have e3 := hG2.2 h0
    have e4 := hnil4.2 h0
    subst e3 e4
    clear hG1 hG2 hT4 hnil4 hOB hOBl
    go_wp2
    go_ret
    exact ⟨rfl, HB4.out⟩
  · have ⟨a3, c3, hv3, _⟩ := hG1
    have ⟨a4, c4, hv4, _⟩ := hT4
    subst hv3 hv4
    have hpos : (0 : Int) < (OB.length : Int) := by have := List.length_pos_iff.2 h0; omega
    have hne : ((OB.length : Int) == 0) = false := beq_eq_false_iff_ne.2 (by omega)
    have E11 := Lib.hid (eq11 a3 a4 c3 c4 OB w4 (by omega) hG1 hT4)
    have hOBm : (OB.length : Int) ≤ 1048576 := by omega
    clear hG1 hG2 hT4 hnil4 hOB h0 hOBl hOl hpos
    go_wp2_with (fail)
    refine E11.out.mono ?_
    rintro e w5 ⟨rfl, m, rfl⟩
    go_wp2_with (fail)
    go_ret
    exact ⟨rfl, HB4.out.trans ((bel_drewN (w := w4) ⟨m, rfl⟩).mono HB4.out.size)⟩
end Go.Proofs.YtmbjhfkpmgkkbaaGreatDoor
