/-
  The walk of FnListEnvironCaseInsensitiveGetFoldsASCII (printed by gen6b.py). Conditions: those in each theorem.
-/
import Derived.Test.YthihppocokkoiaaDoorLwY
namespace Go.Proofs.YthihppocokkoiaaDoor
set_option linter.unusedVariables false
open Go.Shelf Go.RowKit Go.Lib Go.Sort

theorem env42T (v : Value) (P : List ByteArray) (w : World) (hTU : TabsU w) (hv : Texts w v P) (hS : Small P) : Calls Tryd.prog 42 #[.bool true, v] w (EnvOutT w (P.map (·.data.toList))) := by
  have ENV := Lib.hid (env_anyT v P w hTU hv (fun s hs => by have := small_mem hS s hs; omega) hS.1)
  clear hv hS hTU
  go_enter Tryd.func42, Tryd.ntmps42
  go_wp2_with (first | (go_at_call 66; go_must (refine ENV.out.mono ?_); rintro e w2 ⟨sv, R, rfl, hE, hB2, hR⟩; have HI := Lib.hid (And.intro hE (And.intro hB2 hR)); clear hE hR hB2 ENV))
  go_ret
  exact ⟨sv, R, rfl, HI.out.1, HI.out.2.1, HI.out.2.2⟩
theorem tabB_mk {w1 w2 : World} (h : TabsU w1) (hB : Below w1.heap.size w1 w2) : TabB w1.heap.size w2 := ⟨w1, h, Nat.le_refl _, hB⟩

set_option maxRecDepth 20000 in
set_option maxHeartbeats 2000000 in
theorem law6 (a : Option Addr) (c : Nat) (P : List ByteArray) (q : ByteArray) (w : World) (hTU : TabsU w) (hv : Texts w (.slice a P.length c) P) :
    Calls Tryd.prog 6 #[.slice a P.length c, .string q] w fun e w' => e = .returned (.bool true) ∧ Below w.heap.size w w' := by
  have method_get : ∀ (sv : Value) (w : World), (method 342 97 (.agg #[.bool true, sv]) "Get").run Tryd.prog w = .ok (141, .agg #[.bool true, sv]) w := fun sv w => by kernel_rfl
  have B37 := Lib.hid (bytes37 a c P q w (texts_cells hv))
  have HV := Lib.hid hv
  have HTU := Lib.hid hTU
  clear hv hTU
  go_enter Tryd.func6, Tryd.ntmps6
  go_wp2_with (first | (go_at_call 37; go_must (refine B37.out.mono ?_); rintro e w' ⟨⟨b, rfl, hb⟩, rfl⟩; have HB := Lib.hid hb; clear hb B37))
  · go_ret; exact ⟨rfl, Below.refl _ _⟩
  · go_ret; exact ⟨rfl, Below.refl _ _⟩
  have hb1 : (!b) = false := by assumption
  have hS := HB.out (by simpa using hb1)
  have HS := Lib.hid hS.1
  have hq : q.size ≤ 1048576 := hS.2
  clear HB hb1 hS
  refine (size38 a c P q.size w hq HS.out (texts_cells HV.out)).mono ?_
  rintro e w' ⟨⟨b2, rfl, _⟩, rfl⟩
  go_wp2_with (first | (go_at_call 39; go_must (refine (pairs39a a c P w HS.out (texts_cells HV.out)).mono ?_); rintro e w' ⟨⟨b4, rfl, hb4⟩, rfl⟩; have HB4 := Lib.hid hb4; clear hb4) | (go_at_call 40; go_must (refine (name40a q w (by omega)).mono ?_); rintro e w' ⟨⟨b3, rfl, hb3⟩, rfl⟩; have HB3 := Lib.hid hb3; clear hb3))
  all_goals (try (go_ret; exact ⟨rfl, Below.refl _ _⟩))
  have hb3 : (!b3) = false := by assumption
  have hb4 : b4 = true := by assumption
  have H61 : Hid (NoEq q) := Lib.hid (HB3.out (by simpa using hb3)).1
  have HQ : Hid (Asc q) := Lib.hid (HB3.out (by simpa using hb3)).2
  have HA : Hid (∀ j, j < P.length → AsciiKey (P.getD j ByteArray.empty).data.toList) := Lib.hid (HB4.out hb4)
  have HL2 : Hid (∀ x ∈ P.map (·.data.toList), AsciiKey x) := Lib.hid (by
    intro x hx
    obtain ⟨s, hs, rfl⟩ := List.mem_map.1 hx
    obtain ⟨i, hi, hx⟩ := List.mem_iff_getElem.1 hs
    have := HA.out i hi
    rw [List.getD_eq_getElem?_getD, List.getElem?_eq_getElem hi, hx] at this
    exact this)
  clear HB3 hb3 HB4 hb4
  refine (clone41 _ P w HV.out HS.out.1).mono ?_
  rintro e w1 ⟨⟨v', rfl, hT⟩, hB1⟩
  have ⟨a', c', hv', _⟩ := hT
  subst hv'
  have HT := Lib.hid hT
  have HB1 := Lib.hid hB1
  have hn : (P.length : Int) ≤ 1048576 := by have := HS.out.1; omega
  clear hT hB1 HV
  have hw1 : w.heap.size ≤ w1.heap.size := HB1.out.size
  have HT1 : Hid (TabsU w1) := Lib.hid (HTU.out.below HB1.out)
  clear HTU
  have E42 := Lib.hid (env42T _ P w1 HT1.out HT.out HS.out)
  have eqF : (P.map foldB).map (·.data.toList) = (P.map (·.data.toList)).map foldP := foldB_map P
  have GET : Hid (∀ (sv : Value) (R : List (List UInt8)) (W : World) (B : Nat), (EnvListT (P.map (·.data.toList)) R ∧ RowAt W B sv R ∧ TabB B W) → Calls Tryd.prog 141 #[.agg #[.bool true, sv], .string q] W fun e w' => e = .returned (answer (Envp.look ((P.map (·.data.toList)).map foldP) (upB q).data.toList) q.size) ∧ Below W.heap.size W w') :=
    Lib.hid fun sv R W B h => get_anyT _ R q W B sv h.1 HL2.out HQ.out h.2.2 h.2.1 (fun x hx => by
      obtain ⟨s, hs, rfl⟩ := List.mem_map.1 hx
      have := small_mem HS.out s hs
      rw [Array.length_toList]; show s.size ≤ _; omega) (by
      have h1 := env_length (env_folded h.1 HL2.out)
      have h2 := HS.out.1
      rw [List.length_map, List.length_map, List.length_map] at h1
      omega) (by omega) H61.out
  have M43 := Lib.hid (fun (W : World) (hB : Below w1.heap.size w1 W) => model43T a' c' P q W (texts_below HT.out hB) HS.out HA.out HQ.out hq)
  rw [eqF] at M43
  clear eqF
  have hqs : Hid ((upB q).size = q.size) := Lib.hid (upB_size HQ.out)
  cases HL : Envp.look ((P.map (·.data.toList)).map foldP) (upB q).data.toList with
  | none =>
    rw [HL] at GET M43
    clear HL
    go_wp2_with (first | (go_at_call 42; go_must (refine (E42.out).mono ?_); rintro e w2 ⟨sv, R, rfl, hE, hB2, hR⟩; have HI := Lib.hid (And.intro hE (And.intro hR (tabB_mk HT1.out hB2))); have HB2 := Lib.hid hB2; clear hE hR hB2 E42 HT1) | (go_at_call 141; go_must (refine (GET.out _ _ _ _ HI.out).mono ?_); rintro e w3 ⟨rfl, hB3⟩; have HB3 := Lib.hid (HB2.out.trans (hB3.mono HB2.out.size)); clear hB3 HB2 HI GET method_get; unfold answer zeroVar) | (go_at_call 43; go_must (refine (M43.out _ (HB3.out.alloc HB3.out.size _)).mono ?_); rintro e w5 ⟨hm, hB5⟩; obtain ⟨s5, rfl⟩ := model_none hm; have H0 : Hid (w5.heap[w3.heap.size]? = some (.cells #[.bool false, .bool false, .bool false, .bool false, .int .u8 0, .string ⟨#[]⟩, .slice none 0 0, .map none, .slice none 0 0] 34)) := Lib.hid ((hB5.block w3.heap.size (by simp)).trans (by show (w3.heap.push _)[w3.heap.size]? = _; exact Array.getElem?_push_size)); have r0 : w5.cell? ⟨w3.heap.size, 0, none⟩ = some (.bool false) := cell_heap H0.out 0 _ rfl; have r1 : w5.cell? ⟨w3.heap.size, 1, none⟩ = some (.bool false) := cell_heap H0.out 1 _ rfl; have r2 : w5.cell? ⟨w3.heap.size, 2, none⟩ = some (.bool false) := cell_heap H0.out 2 _ rfl; have r3 : w5.cell? ⟨w3.heap.size, 3, none⟩ = some (.bool false) := cell_heap H0.out 3 _ rfl; have r4 : w5.cell? ⟨w3.heap.size, 4, none⟩ = some (.int .u8 0) := cell_heap H0.out 4 _ rfl; have r5 : w5.cell? ⟨w3.heap.size, 5, none⟩ = some (.string ⟨#[]⟩) := cell_heap H0.out 5 _ rfl; have r6 : w5.cell? ⟨w3.heap.size, 6, none⟩ = some (.slice none 0 0) := cell_heap H0.out 6 _ rfl; have r7 : w5.cell? ⟨w3.heap.size, 7, none⟩ = some (.map none) := cell_heap H0.out 7 _ rfl; have r8 : w5.cell? ⟨w3.heap.size, 8, none⟩ = some (.slice none 0 0) := cell_heap H0.out 8 _ rfl; have HB5 := Lib.hid ((HB3.out.alloc HB3.out.size _).trans (hB5.mono (HB3.out.alloc HB3.out.size _).size)); clear hB5 HB3 H0 M43) | (go_at_call 44; go_must (refine (zero44 _).mono ?_); rintro e w6 ⟨rfl, hB6⟩; have HB6 := Lib.hid (HB5.out.trans (hB6.mono HB5.out.size)); clear hB6 HB5))
    go_ret
    exact ⟨rfl, HB1.out.trans (HB6.out.mono hw1)⟩
  | some x =>
    rw [HL] at GET M43
    clear HL
    obtain ⟨xs, hxs⟩ : ∃ xs, xs = (⟨x.toArray⟩ : ByteArray).extract (q.size + 1) (⟨x.toArray⟩ : ByteArray).size := ⟨_, rfl⟩
    have HX := Lib.hid hxs
    have M43' : Hid (∀ (W : World), Below w1.heap.size w1 W → Calls Tryd.prog 43 #[.slice a' P.length c', .string q, .bool true] W fun e w' => e = .returned (.tuple #[.string xs, .bool true]) ∧ Below W.heap.size W w') := Lib.hid fun W hB => (M43.out W hB).mono fun e w' h => ⟨by rw [HX.out, ← hqs.out]; exact model_some h.1, h.2⟩
    have GET' : Hid (∀ (sv : Value) (R : List (List UInt8)) (W : World) (B : Nat), (EnvListT (P.map (·.data.toList)) R ∧ RowAt W B sv R ∧ TabB B W) → Calls Tryd.prog 141 #[.agg #[.bool true, sv], .string q] W fun e w' => e = .returned (strVar xs) ∧ Below W.heap.size W w') := Lib.hid fun sv R W B h => (GET.out sv R W B h).mono fun e w' h => ⟨by rw [HX.out]; exact h.1, h.2⟩
    clear GET M43 HX hxs
    go_wp2_with (first | (go_at_call 42; go_must (refine (E42.out).mono ?_); rintro e w2 ⟨sv, R, rfl, hE, hB2, hR⟩; have HI := Lib.hid (And.intro hE (And.intro hR (tabB_mk HT1.out hB2))); have HB2 := Lib.hid hB2; clear hE hR hB2 E42 HT1) | (go_at_call 141; go_must (refine (GET'.out _ _ _ _ HI.out).mono ?_); rintro e w3 ⟨rfl, hB3⟩; have HB3 := Lib.hid (HB2.out.trans (hB3.mono HB2.out.size)); clear hB3 HB2 HI GET' method_get; unfold strVar) | (go_at_call 43; go_must (refine (M43'.out _ (HB3.out.alloc HB3.out.size _)).mono ?_); rintro e w5 ⟨rfl, hB5⟩; have H0 : Hid (w5.heap[w3.heap.size]? = some (.cells #[.bool true, .bool false, .bool true, .bool false, .int .u8 1, .string xs, .slice none 0 0, .map none, .slice none 0 0] 34)) := Lib.hid ((hB5.block w3.heap.size (by simp)).trans (by show (w3.heap.push _)[w3.heap.size]? = _; exact Array.getElem?_push_size)); have r0 : w5.cell? ⟨w3.heap.size, 0, none⟩ = some (.bool true) := cell_heap H0.out 0 _ rfl; have r1 : w5.cell? ⟨w3.heap.size, 1, none⟩ = some (.bool false) := cell_heap H0.out 1 _ rfl; have r2 : w5.cell? ⟨w3.heap.size, 2, none⟩ = some (.bool true) := cell_heap H0.out 2 _ rfl; have r3 : w5.cell? ⟨w3.heap.size, 3, none⟩ = some (.bool false) := cell_heap H0.out 3 _ rfl; have r4 : w5.cell? ⟨w3.heap.size, 4, none⟩ = some (.int .u8 1) := cell_heap H0.out 4 _ rfl; have r5 : w5.cell? ⟨w3.heap.size, 5, none⟩ = some (.string xs) := cell_heap H0.out 5 _ rfl; have r6 : w5.cell? ⟨w3.heap.size, 6, none⟩ = some (.slice none 0 0) := cell_heap H0.out 6 _ rfl; have r7 : w5.cell? ⟨w3.heap.size, 7, none⟩ = some (.map none) := cell_heap H0.out 7 _ rfl; have r8 : w5.cell? ⟨w3.heap.size, 8, none⟩ = some (.slice none 0 0) := cell_heap H0.out 8 _ rfl; have HB5 := Lib.hid ((HB3.out.alloc HB3.out.size _).trans (hB5.mono (HB3.out.alloc HB3.out.size _).size)); clear hB5 HB3 H0 M43') | (go_at_call 45; go_must (refine (str45 _ _).mono ?_); rintro e w6 ⟨rfl, hB6⟩; have HB6 := Lib.hid (HB5.out.trans (hB6.mono HB5.out.size)); clear hB6 HB5))
    go_ret
    exact ⟨rfl, HB1.out.trans (HB6.out.mono hw1)⟩
end Go.Proofs.YthihppocokkoiaaDoor

