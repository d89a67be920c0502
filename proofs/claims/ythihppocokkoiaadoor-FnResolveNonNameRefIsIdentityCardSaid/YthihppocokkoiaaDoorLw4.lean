/-
  The walk of FnEnvGetMatchesLastPair. Conditions: those in each theorem.
-/
import Derived.Test.YthihppocokkoiaaDoorLwJ
namespace Go.Proofs.YthihppocokkoiaaDoor
set_option linter.unusedVariables false
open Go.Shelf Go.RowKit Go.Lib Go.Sort

theorem text_out {q : ByteArray} {o : Option (List UInt8)} {e : Ending} (h : TextOut q o e) : e = .returned (.string (ansText o q.size)) := by
  obtain ⟨s, he, hf⟩ := h
  cases o with
  | none => have : s = ⟨#[]⟩ := hf; subst this; exact he
  | some x => have : s = (⟨x.toArray⟩ : ByteArray).extract (q.size + 1) (⟨x.toArray⟩ : ByteArray).size := hf; subst this; exact he
theorem str_answer (o : Option (List UInt8)) (k : Nat) (w : World) : Calls Tryd.prog 79 #[answer o k] w fun e w' => e = .returned (.string (ansText o k)) ∧ Below w.heap.size w w' := by
  cases o with
  | none => exact zero79 w
  | some x => exact string79 _ w

set_option maxRecDepth 20000 in
set_option maxHeartbeats 2000000 in
theorem law4 (a : Option Addr) (c : Nat) (P : List ByteArray) (q : ByteArray) (w : World) (hv : Texts w (.slice a P.length c) P) :
    Calls Tryd.prog 4 #[.slice a P.length c, .string q] w fun e w' => e = .returned (.bool true) ∧ Below w.heap.size w w' := by
  have B24 := Lib.hid (bytes24 a c P q w (texts_cells hv))
  have HV := Lib.hid hv
  clear hv
  go_enter Tryd.func4, Tryd.ntmps4
  by_cases hl : (4096 : Int) < (P.length : Int)
  · go_wp2_with (first | (go_at_call 24; go_must (refine B24.out.mono ?_); rintro e w' ⟨⟨b, rfl, hb⟩, rfl⟩; have HB := Lib.hid hb; clear hb B24))
    all_goals (go_ret; exact ⟨rfl, Below.refl _ _⟩)
  go_wp2_with (first | (go_at_call 24; go_must (refine B24.out.mono ?_); rintro e w' ⟨⟨b, rfl, hb⟩, rfl⟩; have HB := Lib.hid hb; clear hb B24))
  · go_ret; exact ⟨rfl, Below.refl _ _⟩
  have hb1 : (!b) = false := by assumption
  have hS := HB.out (by simpa using hb1)
  have HS := Lib.hid hS.1
  have hq : q.size ≤ 1048576 := hS.2
  clear HB hb1 hS
  refine (sum25 a c P w HS.out (by omega) (texts_cells HV.out)).mono ?_
  rintro e w' ⟨⟨n, rfl, hnb⟩, rfl⟩
  go_wp2_with (first | (go_at_call 26; go_must (refine (eq26 q w (by omega)).mono ?_); rintro e w' ⟨rfl, rfl⟩))
  all_goals (try (go_ret; exact ⟨rfl, Below.refl _ _⟩))
  have hneg : Envp.eqAt q.data.toList < 0 := by assumption
  have H61 := Lib.hid (eqAt_neg hneg)
  clear hneg
  have hn : (P.length : Int) ≤ 1048576 := by have := HS.out.1; omega
  refine (copy27 _ P w HV.out HS.out.1).mono ?_
  rintro e w1 ⟨⟨v', rfl, hT⟩, hB1⟩
  have ⟨a', c', hv', _⟩ := hT
  subst hv'
  have HT := Lib.hid hT
  have HB1 := Lib.hid hB1
  clear hT hB1 HV
  have hw1 : w.heap.size ≤ w1.heap.size := HB1.out.size
  have GET : Hid (∀ (sv : Value) (R : List (List UInt8)) (W : World) (B : Nat), Envp.Env (P.map (·.data.toList)) R → RowAt W B sv R → Calls Tryd.prog 141 #[.agg #[.bool false, sv], .string q] W fun e w' => e = .returned (answer (Envp.look (P.map (·.data.toList)) q.data.toList) q.size) ∧ Below W.heap.size W w') :=
    Lib.hid fun sv R W B h1 h2 => get_any _ R q W B sv h1 h2 (fun x hx => by
      obtain ⟨s, hs, rfl⟩ := List.mem_map.1 hx
      have := small_mem HS.out s hs
      rw [Array.length_toList]; show s.size ≤ _; omega) (by
      have h1 := env_length h1
      have h2 := HS.out.1
      rw [List.length_map] at h1
      omega) (by omega) H61.out
  obtain ⟨xs, hxs⟩ : ∃ xs, xs = ansText (Envp.look (P.map (·.data.toList)) q.data.toList) q.size := ⟨_, rfl⟩
  have E29 : Hid (∀ (W : World) (e : Ending) (W0 : World), CfgOut W0 (P.map (·.data.toList)) e W → ∃ g, e = .returned (.pointer (some ⟨g, 0, none⟩)) ∧ Below W0.heap.size W0 W ∧ Calls Tryd.prog 29 #[.pointer (some ⟨g, 0, none⟩), .string q] W fun e w' => e = .returned (.string xs) ∧ Below W.heap.size W w') :=
    Lib.hid fun W e W0 h => by
      obtain ⟨sv, R, g, he, hE, hR, hcell, hg1, hg2, hB⟩ := h
      refine ⟨g, he, hB, env29 g q xs W (Lib.hid ?_)⟩
      exact env67 g sv q xs _ W hcell (Lib.hid fun W' hb => GET.out sv R W' _ hE (rowat_below hR hb)) (Lib.hid fun W' => by rw [hxs]; exact str_answer _ _ W')
  have M30 : Hid (∀ (W : World), Below w1.heap.size w1 W → Calls Tryd.prog 30 #[.slice a' P.length c', .string q] W fun e w' => e = .returned (.string xs) ∧ Below W.heap.size W w') :=
    Lib.hid fun W hB => (model30 a' c' P q W (texts_below HT.out hB) HS.out hq).mono fun e w' h => ⟨by rw [hxs]; exact text_out h.1, h.2⟩
  have L28 := Lib.hid (list28 _ P w1 HT.out HS.out)
  clear hxs GET
  have qs : (xs.toList == xs.toList) = true := by simp
  go_wp2_with (first | (go_at_call 28; go_must (refine L28.out.mono ?_); rintro e w2 hC; obtain ⟨g, rfl, hB2, hE⟩ := E29.out _ _ _ hC; have HB2 := Lib.hid hB2; have HE := Lib.hid hE; clear hC hB2 hE E29 L28) | (go_at_call 29; go_must (refine HE.out.mono ?_); rintro e w3 ⟨rfl, hB3⟩; have HB3 := Lib.hid (HB2.out.trans (hB3.mono HB2.out.size)); clear hB3 HB2 HE) | (go_at_call 30; go_must (refine (M30.out _ HB3.out).mono ?_); rintro e w4 ⟨rfl, hB4⟩; have HB4 := Lib.hid (HB3.out.trans (hB4.mono HB3.out.size)); clear hB4 HB3 M30))
  go_ret
  exact ⟨rfl, HB1.out.trans (HB4.out.mono hw1)⟩
end Go.Proofs.YthihppocokkoiaaDoor
