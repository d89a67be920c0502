/-
  The walk of FnListEnvironLaterPairOverridesOnlyItsName. Conditions: those in each theorem.
-/
import Derived.Test.YthihppocokkoiaaDoorLwO
namespace Go.Proofs.YthihppocokkoiaaDoor
set_option linter.unusedVariables false
open Go.Shelf Go.RowKit Go.Lib Go.Sort

/-- what the longer list answers -/
theorem later_looks (P : List ByteArray) (q y : ByteArray) (hq : 61 ∉ q.data.toList) (hne : q.data.toList ≠ []) :
    answer (Envp.look ((P ++ [q ++ { data := #[61] } ++ y]).map (·.data.toList)) q.data.toList) q.size = strVar y ∧
    (∀ r : ByteArray, r.data.toList ≠ q.data.toList → Envp.look ((P ++ [q ++ { data := #[61] } ++ y]).map (·.data.toList)) r.data.toList = Envp.look (P.map (·.data.toList)) r.data.toList) := by
  have e : ((P ++ [q ++ { data := #[61] } ++ y]).map (·.data.toList)) = P.map (·.data.toList) ++ [q.data.toList ++ 61 :: y.data.toList] := by simp
  rw [e]
  refine ⟨?_, fun r h => ?_⟩
  · rw [Envp.look_app _ hq hne, if_pos (by simp)]
    show strVar ((⟨_⟩ : ByteArray).extract _ _) = _
    rw [ext_val _ _ _ (by simp)]
  · rw [Envp.look_app _ hq hne, if_neg (by simpa using fun e => h (by rw [e]))]

theorem app_sizes {P : List ByteArray} {q y : ByteArray} (hS : Small P) (hq : q.size ≤ 1048576) (hy : y.size ≤ 1048576) :
    (∀ s ∈ P ++ [q ++ { data := #[61] } ++ y], s.size ≤ 1073741824) ∧ (∀ z ∈ (P ++ [q ++ { data := #[61] } ++ y]).map (·.data.toList), z.length ≤ 1073741824) ∧ (∀ z ∈ P.map (·.data.toList), z.length ≤ 1073741824) := by
  have h1 : ∀ s ∈ P ++ [q ++ { data := #[61] } ++ y], s.size ≤ 1073741824 := by
    intro s hs
    rcases List.mem_append.1 hs with h | h
    · have := small_mem hS s h; omega
    · rw [List.mem_singleton.1 h]; simp; have e : (({ data := #[61] } : ByteArray)).size = 1 := rfl
      omega
  refine ⟨h1, fun z hz => ?_, fun z hz => ?_⟩
  · obtain ⟨s, hs, rfl⟩ := List.mem_map.1 hz
    have := h1 s hs
    rw [Array.length_toList]; exact this
  · obtain ⟨s, hs, rfl⟩ := List.mem_map.1 hz
    have := small_mem hS s hs
    rw [Array.length_toList]; show s.size ≤ _; omega

set_option maxRecDepth 20000 in
set_option maxHeartbeats 16000000 in
theorem law11 (a : Option Addr) (c : Nat) (P : List ByteArray) (q x y : ByteArray) (w : World) (hv : Texts w (.slice a P.length c) P) :
    Calls Tryd.prog 11 #[.slice a P.length c, .string q, .string x, .string y] w fun e w' => e = .returned (.bool true) ∧ Below w.heap.size w w' := by
  have method_get : ∀ (sv : Value) (w : World), (method 342 97 (.agg #[.bool false, sv]) "Get").run Tryd.prog w = .ok (141, .agg #[.bool false, sv]) w := fun sv w => by kernel_rfl
  have B53 := Lib.hid (bytes53 a c P q x y w (texts_cells hv))
  have HV := Lib.hid hv
  clear hv
  go_enter Tryd.func11, Tryd.ntmps11
  go_wp2_with (first | (go_at_call 53; go_must (refine B53.out.mono ?_); rintro e w' ⟨⟨b, rfl, hb⟩, rfl⟩; have HB := Lib.hid hb; clear hb B53))
  all_goals (try (go_ret; exact ⟨rfl, Below.refl _ _⟩))
  have hb1 : (!b) = false := by assumption
  have hS := HB.out (by simpa using hb1)
  have HS := Lib.hid hS.1
  have hq : q.size ≤ 1048576 := hS.2.1
  have hx : x.size ≤ 1048576 := hS.2.2.1
  have hy : y.size ≤ 1048576 := hS.2.2.2
  clear HB hb1 hS
  refine (size38i a c P _ w (by omega) (by omega) HS.out (texts_cells HV.out)).mono ?_
  rintro e w' ⟨⟨b2, rfl, hb2⟩, rfl⟩
  have HB2 := Lib.hid hb2
  clear hb2
  go_wp2_with (go_at_call 39; go_must (refine (pairs39 a c P 1 w (Or.inl rfl) HS.out (texts_cells HV.out)).mono ?_); rintro e w' ⟨⟨b4, rfl, _⟩, rfl⟩)
  all_goals (try (go_ret; exact ⟨rfl, Below.refl _ _⟩))
  have hb2 : (!b2) = false := by assumption
  have hn6 := HB2.out (by simpa using hb2)
  clear HB2 hb2
  refine (name40 q 1 w (Or.inr (Or.inl rfl)) (by omega)).mono ?_
  rintro e w' ⟨⟨b3, rfl, hb3⟩, rfl⟩
  have HB3 := Lib.hid hb3
  clear hb3
  go_wp2_with (fail)
  all_goals (try (go_ret; exact ⟨rfl, Below.refl _ _⟩))
  have hb3 : b3 = true := by assumption
  have H61 : Hid (NoEq q) := Lib.hid (HB3.out hb3)
  clear HB3 hb3
  refine (name40 x 1 w (Or.inr (Or.inl rfl)) (by omega)).mono ?_
  rintro e w' ⟨⟨b5, rfl, hb5⟩, rfl⟩
  have HB5 := Lib.hid hb5
  clear hb5
  go_wp2_with (fail)
  all_goals (try (go_ret; exact ⟨rfl, Below.refl _ _⟩))
  have hb5 : (!b5) = false := by assumption
  have H61x : Hid (NoEq x) := Lib.hid (HB5.out (by simpa using hb5))
  clear HB5 hb5
  have hqe : ¬ q.toList = [] := by assumption
  have hxe : ¬ x.toList = [] := by assumption
  have hqx : (q.toList.isEmpty = false ∧ x.toList.isEmpty = false) ∧ (q.toList == x.toList) = false := by assumption
  have HQE : Hid (q.data.toList ≠ []) := Lib.hid (by rw [ByteArray.toList_eq] at hqe; exact hqe)
  have HXE : Hid (x.data.toList ≠ []) := Lib.hid (by rw [ByteArray.toList_eq] at hxe; exact hxe)
  have HQX : Hid (q.data.toList ≠ x.data.toList) := Lib.hid (by have h := hqx.2; rw [ByteArray.toList_eq, ByteArray.toList_eq] at h; simpa using h)
  clear hqe hxe hqx
  have hn : (P.length : Int) ≤ 65536 := by omega
  refine (clone41 _ P w HV.out HS.out.1).mono ?_
  rintro e w1 ⟨⟨v', rfl, hT⟩, hB1⟩
  obtain ⟨a', c', hv', hc'⟩ := hT
  subst hv'
  have HT : Hid (Texts w1 (.slice a' P.length c') P) := Lib.hid ⟨a', c', rfl, hc'⟩
  have HB1 := Lib.hid hB1
  clear hc' hB1 HV
  have hw1 : w.heap.size ≤ w1.heap.size := HB1.out.size
  obtain ⟨cs, hcs, hmk⟩ := make22a (P.length + 1) (by omega)
  have e1 : ((P.length + 1 : Nat) : Int) = (P.length : Int) + 1 := by omega
  rw [e1] at hmk
  have hg1 : (w1.alloc (.cells cs 9)).heap[w1.heap.size]? = some (.cells cs 9) := by show (w1.heap.push _)[w1.heap.size]? = _; exact Array.getElem?_push_size
  obtain ⟨W2, cs2, hr1, CM⟩ := copy_more (w1.alloc (.cells cs 9)) P a' c' w1.heap.size cs (texts_below HT.out ((Below.refl _ _).alloc (Nat.le_refl _) _)) hg1 hcs
  have M1 : Hid (MoreAt P w1 w1.heap.size P.length cs2 W2) := Lib.hid ⟨CM.size, CM.heap, CM.done, ((Below.refl _ _).alloc (Nat.le_refl _) _).trans CM.below⟩
  have hkc : P.length < cs2.size := by rw [CM.size]; omega
  have hyc : W2.cell? ⟨w1.heap.size, P.length, none⟩ = some cs2[P.length] := cell_heap CM.heap P.length _ (Array.getElem?_eq_getElem hkc)
  have hf : W2.frozen? ⟨w1.heap.size, P.length, none⟩ = false := frozen_heap CM.heap P.length
  generalize cs2[P.length] = old at hyc
  have hk1 : (P.length : Int) < (P.length : Int) + 1 := by omega
  have TX := Lib.hid (M1.out.last (q ++ { data := #[61] } ++ y))
  have HCS := Lib.hid hcs
  have hsz2 : W2.heap.size = w1.heap.size + 1 := by rw [CM.same]; simp
  have HSZ2 := Lib.hid hsz2
  clear e1 hg1 CM hkc hcs hsz2
  go_wp2
  generalize hV1 : W2.setCell ⟨w1.heap.size, P.length, none⟩ (.string (q ++ { data := #[61] } ++ y)) = V1 at TX ⊢
  have hsV : V1.heap.size = W2.heap.size := by rw [← hV1]; simp
  obtain ⟨G2, hG2⟩ : ∃ G2, G2 = W2.heap.size := ⟨_, rfl⟩
  have hg2 : (V1.alloc (.cells cs 9)).heap[G2]? = some (.cells cs 9) := by rw [hG2, ← hsV]; exact Array.getElem?_push_size
  have hb2 : Below w1.heap.size w1 V1 := TX.out.2
  have HB2 := Lib.hid hb2
  have hGV : G2 = V1.heap.size := by rw [hG2, hsV]
  obtain ⟨W4, cs4, hr2, CM2⟩ := copy_more (V1.alloc (.cells cs 9)) P a' c' G2 cs (texts_below HT.out (hb2.alloc hb2.size _)) hg2 HCS.out
  rw [← hG2, hr2]
  have M2 : Hid (MoreAt P V1 G2 P.length cs4 W4) := Lib.hid ⟨CM2.size, CM2.heap, CM2.done, ((Below.refl G2 V1).alloc (Nat.le_of_eq hGV) _).trans CM2.below⟩
  have hkc2 : P.length < cs4.size := by rw [CM2.size]; omega
  have hyc2 : W4.cell? ⟨G2, P.length, none⟩ = some cs4[P.length] := cell_heap CM2.heap P.length _ (Array.getElem?_eq_getElem hkc2)
  have hf2 : W4.frozen? ⟨G2, P.length, none⟩ = false := frozen_heap CM2.heap P.length
  generalize cs4[P.length] = old2 at hyc2
  have TX2 := Lib.hid (M2.out.last (x ++ { data := #[61] } ++ y))
  have HGV := Lib.hid hGV
  clear hr1 hr2 hmk hyc hf hV1 hsV hG2 hg2 hb2 hGV CM2 hkc2
  simp only [Result.andThen]
  rw [Oper.upon_value]
  go_wp2_with (fail)
  generalize hV3 : W4.setCell ⟨G2, P.length, none⟩ (.string (x ++ { data := #[61] } ++ y)) = V3 at TX2 ⊢
  have B13 : Hid (Below V1.heap.size V1 V3) := Lib.hid (by rw [← HGV.out]; exact TX2.out.2)
  have BW3 : Hid (Below w.heap.size w V3) := Lib.hid ((HB1.out.trans (HB2.out.mono hw1)).trans (B13.out.mono (Nat.le_trans hw1 HB2.out.size)))
  clear hV3 hyc2 hf2
  obtain ⟨z1, z2, z3⟩ := app_sizes (q := q) (y := y) HS.out hq hy
  obtain ⟨z4, z5, _⟩ := app_sizes (q := x) (y := y) HS.out hx hy
  obtain ⟨l1, l2⟩ := later_looks P q y H61.out HQE.out
  obtain ⟨l3, l4⟩ := later_looks P x y H61x.out HXE.out
  have l5 := l4 q HQX.out
  have hlen : ∀ s : ByteArray, (P ++ [s]).length = P.length + 1 := fun s => by simp
  have E1 := Lib.hid fun (W : World) (hB : Below V3.heap.size V3 W) => env48g (.slice a' P.length c') P W (texts_below (texts_below HT.out (HB2.out.trans (B13.out.mono HB2.out.size))) hB) (fun s hs => by have := small_mem HS.out s hs; omega) (by omega)
  have E2 := Lib.hid fun (W : World) (hB : Below V3.heap.size V3 W) => env48g _ _ W (texts_below (texts_below TX.out.1 B13.out) hB) z1 (by rw [hlen]; omega)
  have E3 := Lib.hid fun (W : World) (hB : Below V3.heap.size V3 W) => env48g _ _ W (texts_below TX2.out.1 hB) z4 (by rw [hlen]; omega)
  have GP := Lib.hid fun (e : Ending) (W0 W : World) (h : EnvOut W0 (P.map (·.data.toList)) e W) => env_gets h z3 (by rw [List.length_map]; omega)
  have G1 := Lib.hid fun (e : Ending) (W0 W : World) (h : EnvOut W0 ((P ++ [q ++ { data := #[61] } ++ y]).map (·.data.toList)) e W) => env_gets h z2 (by rw [List.length_map, hlen]; omega)
  have G3 := Lib.hid fun (e : Ending) (W0 W : World) (h : EnvOut W0 ((P ++ [x ++ { data := #[61] } ++ y]).map (·.data.toList)) e W) => env_gets h z5 (by rw [List.length_map, hlen]; omega)
  obtain ⟨bb, kk, ss, hans⟩ := answer_form (Envp.look (P.map (·.data.toList)) q.data.toList) q.size
  have S54 := Lib.hid fun W => same54a (Envp.look (P.map (·.data.toList)) q.data.toList) q.size W
  rw [hans] at S54
  have L1 := Lib.hid l1
  have L3 := Lib.hid l3
  have L5 := Lib.hid l5
  have HANS := Lib.hid hans
  clear z1 z2 z3 z4 z5 l1 l2 l3 l4 l5 hans hlen
  go_wp2_with (go_at_call 48; refine (E1.out _ (Below.refl _ _)).mono ?_; rintro e W5 h5; obtain ⟨sv1, rfl, hb5, g5⟩ := GP.out _ _ _ h5; have B5 := Lib.hid hb5; have R5 := Lib.hid (g5 q W5 hq H61.out (Below.refl _ _)); clear h5 hb5 g5; rw [HANS.out] at R5)
  go_wp2_with (go_at_call 141; refine R5.out.mono ?_; rintro e W6 ⟨rfl, hb6⟩; have B6 := Lib.hid (B5.out.trans (hb6.mono B5.out.size)); clear hb6 R5 B5)
  generalize hA0 : World.alloc W6 (.cells _ 34) = A0
  have N0 : Hid (A0.heap[W6.heap.size]? = some (.cells #[.bool bb, .bool false, .bool bb, .bool false, .int .u8 kk, .string ss, .slice none 0 0, .map none, .slice none 0 0] 34)) := Lib.hid (by rw [← hA0]; exact Array.getElem?_push_size)
  have B6' : Hid (Below V3.heap.size V3 A0) := Lib.hid (by rw [← hA0]; exact B6.out.alloc B6.out.size _)
  have Z0 : Hid (W6.heap.size < A0.heap.size) := Lib.hid (by rw [← hA0]; simp)
  clear hA0 B6
  go_wp2_with (go_at_call 48; refine (E2.out _ B6'.out).mono ?_; rintro e W7 h7; obtain ⟨sv2, rfl, hb7, g7⟩ := G1.out _ _ _ h7; have B7 := Lib.hid (B6'.out.trans (hb7.mono B6'.out.size)); have C7 := Lib.hid hb7; have R7 := Lib.hid (g7 q W7 hq H61.out (Below.refl _ _)); clear h7 hb7 g7; rw [L1.out] at R7; unfold strVar at R7)
  go_wp2_with (go_at_call 141; refine R7.out.mono ?_; rintro e W8 ⟨rfl, hb8⟩; have B8 := Lib.hid (B7.out.trans (hb8.mono B7.out.size)); have C8 := Lib.hid (C7.out.trans (hb8.mono C7.out.size)); clear hb8 R7 B7 C7)
  generalize hA1 : World.alloc W8 (.cells _ 34) = A1
  have N1 : Hid (A1.heap[W8.heap.size]? = some (.cells #[.bool true, .bool false, .bool true, .bool false, .int .u8 1, .string y, .slice none 0 0, .map none, .slice none 0 0] 34)) := Lib.hid (by rw [← hA1]; exact Array.getElem?_push_size)
  have B8' : Hid (Below V3.heap.size V3 A1) := Lib.hid (by rw [← hA1]; exact B8.out.alloc B8.out.size _)
  have Z1 : Hid (W8.heap.size < A1.heap.size) := Lib.hid (by rw [← hA1]; simp)
  have C8' : Hid (Below A0.heap.size A0 A1) := Lib.hid (by rw [← hA1]; exact C8.out.alloc C8.out.size _)
  clear hA1 B8
  go_wp2_with (go_at_call 48; refine (E3.out _ B8'.out).mono ?_; rintro e W9 h9; obtain ⟨sv3, rfl, hb9, g9⟩ := G3.out _ _ _ h9; have B9 := Lib.hid (B8'.out.trans (hb9.mono B8'.out.size)); have C9 := Lib.hid hb9; have G9 := Lib.hid g9; have R9 := Lib.hid (g9 q W9 hq H61.out (Below.refl _ _)); clear h9 hb9 g9; rw [L5.out, HANS.out] at R9)
  go_wp2_with (go_at_call 141; refine R9.out.mono ?_; rintro e W10 ⟨rfl, hb10⟩; have B10 := Lib.hid (B9.out.trans (hb10.mono B9.out.size)); have C10 := Lib.hid (C9.out.trans (hb10.mono C9.out.size)); have D10 := Lib.hid hb10; clear hb10 R9 B9 C9)
  generalize hA2 : World.alloc W10 (.cells _ 34) = A2
  have N2 : Hid (A2.heap[W10.heap.size]? = some (.cells #[.bool bb, .bool false, .bool bb, .bool false, .int .u8 kk, .string ss, .slice none 0 0, .map none, .slice none 0 0] 34)) := Lib.hid (by rw [← hA2]; exact Array.getElem?_push_size)
  have B10' : Hid (Below V3.heap.size V3 A2) := Lib.hid (by rw [← hA2]; exact B10.out.alloc B10.out.size _)
  have Z2 : Hid (W10.heap.size < A2.heap.size) := Lib.hid (by rw [← hA2]; simp)
  have C10' : Hid (Below A1.heap.size A1 A2) := Lib.hid (by rw [← hA2]; exact C10.out.alloc C10.out.size _)
  have D10' : Hid (Below W9.heap.size W9 A2) := Lib.hid (by rw [← hA2]; exact D10.out.alloc D10.out.size _)
  clear hA2 B10
  have R10 := Lib.hid (G9.out x A2 hx H61x.out D10'.out)
  rw [L3.out] at R10
  unfold strVar at R10
  go_wp2_with (first | (go_at_call 141; refine R10.out.mono ?_; rintro e W11 ⟨rfl, hb11⟩; have B11 := Lib.hid (B10'.out.trans (hb11.mono B10'.out.size)); have C11 := Lib.hid hb11; have Q1 : Hid ((W11.alloc (.cells #[.bool true, .bool false, .bool true, .bool false, .int .u8 1, .string y, .slice none 0 0, .map none, .slice none 0 0] 34)).heap[W8.heap.size]? = some (.cells #[.bool true, .bool false, .bool true, .bool false, .int .u8 1, .string y, .slice none 0 0, .map none, .slice none 0 0] 34)) := Lib.hid (by rw [Below.heap_alloc _ _ _ (by have := C10'.out.size; have := C11.out.size; have := Z1.out; omega), C11.out.block _ (by have := C10'.out.size; have := Z1.out; omega), C10'.out.block _ Z1.out]; exact N1.out); clear hb11 R10; have r0 : (W11.alloc (.cells #[.bool true, .bool false, .bool true, .bool false, .int .u8 1, .string y, .slice none 0 0, .map none, .slice none 0 0] 34)).cell? ⟨W8.heap.size, 0, none⟩ = some (.bool true) := cell_heap Q1.out 0 _ rfl; have r1 : (W11.alloc (.cells #[.bool true, .bool false, .bool true, .bool false, .int .u8 1, .string y, .slice none 0 0, .map none, .slice none 0 0] 34)).cell? ⟨W8.heap.size, 1, none⟩ = some (.bool false) := cell_heap Q1.out 1 _ rfl; have r2 : (W11.alloc (.cells #[.bool true, .bool false, .bool true, .bool false, .int .u8 1, .string y, .slice none 0 0, .map none, .slice none 0 0] 34)).cell? ⟨W8.heap.size, 2, none⟩ = some (.bool true) := cell_heap Q1.out 2 _ rfl; have r3 : (W11.alloc (.cells #[.bool true, .bool false, .bool true, .bool false, .int .u8 1, .string y, .slice none 0 0, .map none, .slice none 0 0] 34)).cell? ⟨W8.heap.size, 3, none⟩ = some (.bool false) := cell_heap Q1.out 3 _ rfl; have r4 : (W11.alloc (.cells #[.bool true, .bool false, .bool true, .bool false, .int .u8 1, .string y, .slice none 0 0, .map none, .slice none 0 0] 34)).cell? ⟨W8.heap.size, 4, none⟩ = some (.int .u8 1) := cell_heap Q1.out 4 _ rfl; have r5 : (W11.alloc (.cells #[.bool true, .bool false, .bool true, .bool false, .int .u8 1, .string y, .slice none 0 0, .map none, .slice none 0 0] 34)).cell? ⟨W8.heap.size, 5, none⟩ = some (.string y) := cell_heap Q1.out 5 _ rfl; have r6 : (W11.alloc (.cells #[.bool true, .bool false, .bool true, .bool false, .int .u8 1, .string y, .slice none 0 0, .map none, .slice none 0 0] 34)).cell? ⟨W8.heap.size, 6, none⟩ = some (.slice none 0 0) := cell_heap Q1.out 6 _ rfl; have r7 : (W11.alloc (.cells #[.bool true, .bool false, .bool true, .bool false, .int .u8 1, .string y, .slice none 0 0, .map none, .slice none 0 0] 34)).cell? ⟨W8.heap.size, 7, none⟩ = some (.map none) := cell_heap Q1.out 7 _ rfl; have r8 : (W11.alloc (.cells #[.bool true, .bool false, .bool true, .bool false, .int .u8 1, .string y, .slice none 0 0, .map none, .slice none 0 0] 34)).cell? ⟨W8.heap.size, 8, none⟩ = some (.slice none 0 0) := cell_heap Q1.out 8 _ rfl))
  clear r0 r1 r2 r3 r4 r5 r6 r7 r8 Q1
  generalize hA3 : World.alloc W11 (.cells _ 34) = A3
  have N3 : Hid (A3.heap[W11.heap.size]? = some (.cells #[.bool true, .bool false, .bool true, .bool false, .int .u8 1, .string y, .slice none 0 0, .map none, .slice none 0 0] 34)) := Lib.hid (by rw [← hA3]; exact Array.getElem?_push_size)
  have B11' : Hid (Below V3.heap.size V3 A3) := Lib.hid (by rw [← hA3]; exact B11.out.alloc B11.out.size _)
  have Z3 : Hid (W11.heap.size < A3.heap.size) := Lib.hid (by rw [← hA3]; simp)
  have C11' : Hid (Below A2.heap.size A2 A3) := Lib.hid (by rw [← hA3]; exact C11.out.alloc C11.out.size _)
  clear hA3 B11
  go_wp2_with (first | (go_at_call 45; refine (str45 y _).mono ?_; rintro e W12 ⟨rfl, hb12⟩; have B12 := Lib.hid (B11'.out.trans (hb12.mono B11'.out.size)); have C12 := Lib.hid hb12; have Q2 : Hid (W12.heap[W10.heap.size]? = some (.cells #[.bool bb, .bool false, .bool bb, .bool false, .int .u8 kk, .string ss, .slice none 0 0, .map none, .slice none 0 0] 34)) := Lib.hid (by rw [C12.out.block _ (by have := C11'.out.size; have := Z2.out; omega), C11'.out.block _ Z2.out]; exact N2.out); have Q0 : Hid (W12.heap[W6.heap.size]? = some (.cells #[.bool bb, .bool false, .bool bb, .bool false, .int .u8 kk, .string ss, .slice none 0 0, .map none, .slice none 0 0] 34)) := Lib.hid (by rw [C12.out.block _ (by have := C11'.out.size; have := C10'.out.size; have := C8'.out.size; have := Z0.out; omega), C11'.out.block _ (by have := C10'.out.size; have := C8'.out.size; have := Z0.out; omega), C10'.out.block _ (by have := C8'.out.size; have := Z0.out; omega), C8'.out.block _ Z0.out]; exact N0.out); clear hb12; have p0 : W12.cell? ⟨W10.heap.size, 0, none⟩ = some (.bool bb) := cell_heap Q2.out 0 _ rfl; have p1 : W12.cell? ⟨W10.heap.size, 1, none⟩ = some (.bool false) := cell_heap Q2.out 1 _ rfl; have p2 : W12.cell? ⟨W10.heap.size, 2, none⟩ = some (.bool bb) := cell_heap Q2.out 2 _ rfl; have p3 : W12.cell? ⟨W10.heap.size, 3, none⟩ = some (.bool false) := cell_heap Q2.out 3 _ rfl; have p4 : W12.cell? ⟨W10.heap.size, 4, none⟩ = some (.int .u8 kk) := cell_heap Q2.out 4 _ rfl; have p5 : W12.cell? ⟨W10.heap.size, 5, none⟩ = some (.string ss) := cell_heap Q2.out 5 _ rfl; have p6 : W12.cell? ⟨W10.heap.size, 6, none⟩ = some (.slice none 0 0) := cell_heap Q2.out 6 _ rfl; have p7 : W12.cell? ⟨W10.heap.size, 7, none⟩ = some (.map none) := cell_heap Q2.out 7 _ rfl; have p8 : W12.cell? ⟨W10.heap.size, 8, none⟩ = some (.slice none 0 0) := cell_heap Q2.out 8 _ rfl; have s0 : W12.cell? ⟨W6.heap.size, 0, none⟩ = some (.bool bb) := cell_heap Q0.out 0 _ rfl; have s1 : W12.cell? ⟨W6.heap.size, 1, none⟩ = some (.bool false) := cell_heap Q0.out 1 _ rfl; have s2 : W12.cell? ⟨W6.heap.size, 2, none⟩ = some (.bool bb) := cell_heap Q0.out 2 _ rfl; have s3 : W12.cell? ⟨W6.heap.size, 3, none⟩ = some (.bool false) := cell_heap Q0.out 3 _ rfl; have s4 : W12.cell? ⟨W6.heap.size, 4, none⟩ = some (.int .u8 kk) := cell_heap Q0.out 4 _ rfl; have s5 : W12.cell? ⟨W6.heap.size, 5, none⟩ = some (.string ss) := cell_heap Q0.out 5 _ rfl; have s6 : W12.cell? ⟨W6.heap.size, 6, none⟩ = some (.slice none 0 0) := cell_heap Q0.out 6 _ rfl; have s7 : W12.cell? ⟨W6.heap.size, 7, none⟩ = some (.map none) := cell_heap Q0.out 7 _ rfl; have s8 : W12.cell? ⟨W6.heap.size, 8, none⟩ = some (.slice none 0 0) := cell_heap Q0.out 8 _ rfl))
  clear p0 s0 p1 s1 p2 s2 p3 s3 p4 s4 p5 s5 p6 s6 p7 s7 p8 s8 Q2 Q0
  go_wp2_with (first | (go_at_call 54; refine (S54.out _).mono ?_; rintro e W13 ⟨rfl, hb13⟩; have B13 := Lib.hid (B12.out.trans (hb13.mono B12.out.size)); have Q3 : Hid (W13.heap[W11.heap.size]? = some (.cells #[.bool true, .bool false, .bool true, .bool false, .int .u8 1, .string y, .slice none 0 0, .map none, .slice none 0 0] 34)) := Lib.hid (by rw [hb13.block _ (by have := C12.out.size; have := Z3.out; omega), C12.out.block _ Z3.out]; exact N3.out); clear hb13 S54; have t0 : W13.cell? ⟨W11.heap.size, 0, none⟩ = some (.bool true) := cell_heap Q3.out 0 _ rfl; have t1 : W13.cell? ⟨W11.heap.size, 1, none⟩ = some (.bool false) := cell_heap Q3.out 1 _ rfl; have t2 : W13.cell? ⟨W11.heap.size, 2, none⟩ = some (.bool true) := cell_heap Q3.out 2 _ rfl; have t3 : W13.cell? ⟨W11.heap.size, 3, none⟩ = some (.bool false) := cell_heap Q3.out 3 _ rfl; have t4 : W13.cell? ⟨W11.heap.size, 4, none⟩ = some (.int .u8 1) := cell_heap Q3.out 4 _ rfl; have t5 : W13.cell? ⟨W11.heap.size, 5, none⟩ = some (.string y) := cell_heap Q3.out 5 _ rfl; have t6 : W13.cell? ⟨W11.heap.size, 6, none⟩ = some (.slice none 0 0) := cell_heap Q3.out 6 _ rfl; have t7 : W13.cell? ⟨W11.heap.size, 7, none⟩ = some (.map none) := cell_heap Q3.out 7 _ rfl; have t8 : W13.cell? ⟨W11.heap.size, 8, none⟩ = some (.slice none 0 0) := cell_heap Q3.out 8 _ rfl))
  clear t0 t1 t2 t3 t4 t5 t6 t7 t8 Q3
  go_wp2_with (go_at_call 45; refine (str45 y _).mono ?_; rintro e W14 ⟨rfl, hb14⟩; have B14 := Lib.hid (B13.out.trans (hb14.mono B13.out.size)); clear hb14)
  go_ret
  exact ⟨rfl, BW3.out.trans (B14.out.mono BW3.out.size)⟩
end Go.Proofs.YthihppocokkoiaaDoor
