/-
  The walk of FnFuncEnvironAgreesWithListEnviron. Conditions: those in each theorem.
-/
import Derived.Test.YthihppocokkoiaaDoorLwR
namespace Go.Proofs.YthihppocokkoiaaDoor
set_option linter.unusedVariables false
open Go.Shelf Go.RowKit Go.Lib Go.Sort

set_option maxRecDepth 20000 in
set_option maxHeartbeats 16000000 in
theorem law10a (a a2 : Option Addr) (c c2 : Nat) (P V : List ByteArray) (q : ByteArray) (w : World) (hv : Texts w (.slice a P.length c) P) (hv2 : Texts w (.slice a2 V.length c2) V) (hcase : V.length < P.length) :
    Calls Tryd.prog 10 #[.slice a P.length c, .slice a2 V.length c2, .string q] w fun e w' => e = .returned (.bool true) ∧ Below w.heap.size w w' := by
  have method_get : ∀ (sv : Value) (w : World), (method 342 97 (.agg #[.bool false, sv]) "Get").run Tryd.prog w = .ok (141, .agg #[.bool false, sv]) w := fun sv w => by kernel_rfl
  have method93 : ∀ (x y : Value) (w : World), (method 342 93 (.func (.func 52) #[.agg #[x, y]] #[]) "Get").run Tryd.prog w = .ok (139, .func (.func 52) #[.agg #[x, y]] #[]) w := fun x y w => by kernel_rfl
  have B50 := Lib.hid (bytes50 a a2 c c2 P V q w (texts_cells hv) (texts_cells hv2))
  have HV := Lib.hid hv
  have HV2 := Lib.hid hv2
  have hci : (V.length : Int) < (P.length : Int) := by omega
  have HR : Hid (Rows2 P V V.length) := Lib.hid (.inl ⟨by omega, rfl⟩)
  clear hv hv2 hcase
  go_enter Tryd.func10, Tryd.ntmps10
  go_wp2_with (first | (go_at_call 50; go_must (refine B50.out.mono ?_); rintro e w' ⟨⟨b, rfl, hb⟩, rfl⟩; have HB := Lib.hid hb; clear hb B50))
  all_goals (try (go_ret; exact ⟨rfl, Below.refl _ _⟩))
  have hb1 : (!b) = false := by assumption
  have hS := HB.out (by simpa using hb1)
  have HS := Lib.hid hS.1
  have HS2 := Lib.hid hS.2.1
  have hq : q.size ≤ 1048576 := hS.2.2
  have hPi : (P.length : Int) ≤ 1048576 := by have := hS.1.1; omega
  have hVi : (V.length : Int) ≤ 1048576 := by have := hS.2.1.1; omega
  clear HB hb1 hS
  refine (strs16 a c P w HS.out (texts_cells HV.out)).mono ?_
  rintro e w' ⟨⟨n1, rfl, hn1⟩, rfl⟩
  go_wp2_with (fail)
  refine (strs16 a2 c2 V w HS2.out (texts_cells HV2.out)).mono ?_
  rintro e w' ⟨⟨n2, rfl, hn2⟩, rfl⟩
  go_wp2_with (fail)
  all_goals (try (go_ret; exact ⟨rfl, Below.refl _ _⟩))
  go_loopg [8] (V.length) (fun g v8 wr => ∃ k : Nat, v8 = .int .i64 k ∧ (k : Int) ≤ ((V.length : Nat) : Int) ∧ V.length - k ≤ g ∧ w = wr ∧ Hid (∀ j, j < k → RowOk P V j))
  case atStart => exact ⟨0, rfl, by omega, by omega, rfl, Lib.hid fun j hj => by omega⟩
  case round =>
    obtain ⟨k, rfl, hk, hg, hwr, OK⟩ := hrel
    subst hwr
    by_cases hlt : (k : Int) < ((V.length : Nat) : Int)
    · have hk1 : k < P.length := by omega
      have hk2 : k < V.length := by omega
      obtain ⟨x1, o1, rfl, hc1⟩ := texts_cells HV.out (by rintro rfl; simp at hk1)
      obtain ⟨x2, o2, rfl, hc2⟩ := texts_cells HV2.out (by rintro rfl; simp at hk2)
      have hx1 := hc1 k hk1
      have hx2 := hc2 k hk2
      have hki1 : (k : Int) < (P.length : Int) := by omega
      have hki2 : (k : Int) < (V.length : Int) := by omega
      have hsn := HS.out.2 k hk1
      obtain ⟨nm, hnm⟩ : ∃ nm, nm = P.getD k ByteArray.empty := ⟨_, rfl⟩
      obtain ⟨vl, hvl⟩ : ∃ vl, vl = V.getD k ByteArray.empty := ⟨_, rfl⟩
      rw [← hnm] at hx1 hsn
      rw [← hvl] at hx2
      have OK2 : Hid (nm.data.toList ≠ [] → NoEq nm → vl.data.toList ≠ [] → ∀ j, j < k + 1 → RowOk P V j) := Lib.hid fun h1 h2 h3 j hj => by
        by_cases e : j = k
        · subst e; unfold RowOk; rw [← hnm, ← hvl]; exact ⟨h1, h2, h3⟩
        · exact OK.out j (by omega)
      clear hc1 hc2 hnm hvl OK
      by_cases e1 : nm.toList = []
      · have e1b : nm.toList.isEmpty = true := by rw [e1]; rfl
        go_wp2
        go_ret
        exact ⟨rfl, Below.refl _ _⟩
      · have e1b : nm.toList.isEmpty = false := by simpa using e1
        have d1 : Hid (nm.data.toList ≠ []) := Lib.hid (by rw [ByteArray.toList_eq] at e1; exact e1)
        by_cases e2 : vl.toList = []
        · have e2b : vl.toList.isEmpty = true := by rw [e2]; rfl
          go_wp2_with (go_at_call 17; refine (has17 nm w (by omega)).mono ?_; rintro e w' ⟨⟨b3, rfl, hb3⟩, rfl⟩; clear hb3)
          all_goals (go_ret; exact ⟨rfl, Below.refl _ _⟩)
        · have e2b : vl.toList.isEmpty = false := by simpa using e2
          have d2 : Hid (vl.data.toList ≠ []) := Lib.hid (by rw [ByteArray.toList_eq] at e2; exact e2)
          go_wp2_with (go_at_call 17; refine (has17 nm w (by omega)).mono ?_; rintro e w' ⟨⟨b3, rfl, hb3⟩, rfl⟩; have HB3 := Lib.hid hb3; clear hb3)
          · go_ret
            exact ⟨rfl, Below.refl _ _⟩
          · have hb4 : ¬ b3 = true := by assumption
            have hb3 : b3 = false := by simpa using hb4
            have OK3 := Lib.hid (OK2.out d1.out (HB3.out hb3) d2.out)
            clear HB3 OK2 hb3 hb4
            go_roundg (V.length - (k + 1))
            case measure => omega
            case rel => exact ⟨k + 1, by go_num, by omega, Nat.le_refl _, rfl, OK3⟩
    · obtain rfl : k = V.length := by omega
      have HOK := Lib.hid OK.out
      clear OK hlt hk hg
      go_wp2_with (go_at_call 17; refine (has17 q w (by omega)).mono ?_; rintro e w' ⟨⟨b3, rfl, hb3⟩, rfl⟩; have HB3 := Lib.hid hb3; clear hb3)
      · go_ret
        exact ⟨rfl, Below.refl _ _⟩
      have hb3 : b3 = false := by assumption
      have H61 : Hid (NoEq q) := Lib.hid (HB3.out hb3)
      clear HB3 hb3
      refine (copy18 _ P w HV.out HS.out.1).mono ?_
      rintro e w1 ⟨⟨v', rfl, hT⟩, hB1⟩
      obtain ⟨a3, c3, hv', hc'⟩ := hT
      subst hv'
      have HT : Hid (Texts w1 (.slice a3 P.length c3) P) := Lib.hid ⟨a3, c3, rfl, hc'⟩
      have HB1 := Lib.hid hB1
      clear hc' hB1
      go_wp2_with (fail)
      refine (copy18 _ V w1 (texts_below HV2.out HB1.out) HS2.out.1).mono ?_
      rintro e w2 ⟨⟨v', rfl, hT⟩, hB2⟩
      obtain ⟨a4, c4, hv', hc'⟩ := hT
      subst hv'
      have HT2 : Hid (Texts w2 (.slice a4 V.length c4) V) := Lib.hid ⟨a4, c4, rfl, hc'⟩
      have HB2 := Lib.hid hB2
      have HTP : Hid (Texts w2 (.slice a3 P.length c3) P) := Lib.hid (texts_below HT.out hB2)
      clear hc' hB2 HT HV HV2
      have hw1 : w.heap.size ≤ w1.heap.size := HB1.out.size
      have hw2 : w1.heap.size ≤ w2.heap.size := HB2.out.size
      obtain ⟨cs, hcs, hmk⟩ := make22a (V.length) (by omega)
      obtain ⟨L, hL⟩ : ∃ L, L = pairsOf P V V.length := ⟨_, rfl⟩
      have hLl : L.length = V.length := by rw [hL]; exact pairs_length _ _ _
      have C0 : Hid (CopyAt L w2 w2.heap.size 0 cs (w2.alloc (.cells cs 9))) := Lib.hid ⟨by rw [hLl]; exact hcs, by show (w2.heap.push _)[w2.heap.size]? = _; exact Array.getElem?_push_size, fun j hj => by omega, (Below.refl _ _).alloc (Nat.le_refl _) _⟩
      have HL := Lib.hid hL
      have HLl := Lib.hid hLl
      clear hcs hL hLl
      go_wp2_with (fail)
      generalize hW : w2.alloc (.cells cs 9) = W3 at C0 ⊢
      clear hW hmk
      go_loopg [10] (V.length) (fun g v10 wr => ∃ (k : Nat) (ck : Array Value), v10 = .int .i64 k ∧ (k : Int) ≤ ((V.length : Nat) : Int) ∧ V.length - k ≤ g ∧ Hid (CopyAt L w2 w2.heap.size k ck wr))
      case atStart => exact ⟨0, cs, rfl, by omega, by omega, C0⟩
      case round =>
        clear C0
        obtain ⟨k, ck, rfl, hk, hg, CK⟩ := hrel
        by_cases hlt : (k : Int) < ((V.length : Nat) : Int)
        · have hk1 : k < P.length := by omega
          have hk2 : k < V.length := by omega
          obtain ⟨x1, o1, rfl, hc1⟩ := texts_cells (texts_below HTP.out CK.out.below) (by rintro rfl; simp at hk1)
          obtain ⟨x2, o2, rfl, hc2⟩ := texts_cells (texts_below HT2.out CK.out.below) (by rintro rfl; simp at hk2)
          have hx1 := hc1 k hk1
          have hx2 := hc2 k hk2
          have hki1 : (k : Int) < (P.length : Int) := by omega
          have hki2 : (k : Int) < (V.length : Int) := by omega
          have hkc : k < ck.size := by rw [CK.out.size, HLl.out]; omega
          have hyc : wr.cell? ⟨w2.heap.size, k, none⟩ = some ck[k] := cell_heap CK.out.heap k _ (Array.getElem?_eq_getElem hkc)
          have hf : wr.frozen? ⟨w2.heap.size, k, none⟩ = false := frozen_heap CK.out.heap k
          have sn1 := HS.out.2 k hk1
          have sn2 := HS2.out.2 k hk2
          have hst := CK.out.step (k := k) (by rw [HLl.out]; omega)
          rw [HL.out, pairs_getD P V _ k (by omega), ← HL.out] at hst
          obtain ⟨nm, hnm⟩ : ∃ nm, nm = P.getD k ByteArray.empty := ⟨_, rfl⟩
          obtain ⟨vl, hvl⟩ : ∃ vl, vl = V.getD k ByteArray.empty := ⟨_, rfl⟩
          rw [← hnm] at hx1 hst sn1
          rw [← hvl] at hx2 hst sn2
          have C2 := Lib.hid hst
          generalize ck.setIfInBounds k (.string (nm ++ { data := #[61] } ++ vl)) = ck2 at C2
          generalize ck[k] = old at hyc
          clear hc1 hc2 hnm hvl hst CK hkc
          go_wp2
          go_region
          all_goals go_wp2
          all_goals go_roundg (V.length - (k + 1))
          case measure => omega
          case rel => exact ⟨k + 1, ck2, by go_num, by omega, Nat.le_refl _, (by first | exact C2 | exact Lib.hid C2.out.drew)⟩
        · obtain rfl : k = V.length := by omega
          have hTX := CK.out
          rw [← HLl.out] at hTX
          have TX : Hid (Texts wr (.slice (some ⟨w2.heap.size, 0, none⟩) (V.length) (V.length)) L) := Lib.hid (by have h := hTX.texts; rw [HLl.out] at h; exact h)
          have BW := Lib.hid hTX.below
          clear hTX CK
          have hLs : ∀ s ∈ L, s.size ≤ 1073741824 := by
            intro s hs
            rw [HL.out] at hs
            unfold pairsOf at hs
            obtain ⟨j, hj, rfl⟩ := List.mem_map.1 hs
            rw [List.mem_range] at hj
            have h1 := HS.out.2 j (by omega)
            have h2 := HS2.out.2 j (by omega)
            have e : (({ data := #[61] } : ByteArray)).size = 1 := rfl
            rw [ByteArray.size_append, ByteArray.size_append, e]; omega
          have hLz : ∀ z ∈ L.map (·.data.toList), z.length ≤ 1073741824 := fun z hz => by
            obtain ⟨s, hs, rfl⟩ := List.mem_map.1 hz
            rw [Array.length_toList]; exact hLs s hs
          obtain ⟨bb, kk, ss, hkk, hans, _⟩ := answer_form4 (Envp.look (L.map (·.data.toList)) q.data.toList) q.size
          have s23 := fun W => same23a (Envp.look (L.map (·.data.toList)) q.data.toList) q.size W
          rw [hans] at s23
          have S23 := Lib.hid s23
          have HANS := Lib.hid hans
          have G139 : Hid (∀ W : World, Below w2.heap.size w2 W → Calls Tryd.prog 139 #[.func (.func 52) #[.agg #[.slice a3 P.length c3, .slice a4 V.length c4]] #[], .string q] W fun e w' => e = .returned (.agg #[.bool bb, .bool false, .bool bb, .bool false, .int .u8 kk, .string ss, .slice none 0 0, .map none, .slice none 0 0]) ∧ Below W.heap.size W w') := Lib.hid fun W hW => by
            have h := get139 a3 a4 c3 c4 P V (V.length) q W (texts_below HTP.out hW) (texts_below HT2.out hW) HR.out HS.out.1 HS2.out.1 HOK.out
            rw [← HL.out, HANS.out] at h
            exact h
          have E19 := Lib.hid fun (W : World) (hW : Below wr.heap.size wr W) => env19 (.slice (some ⟨w2.heap.size, 0, none⟩) (V.length) (V.length)) L W (texts_below TX.out hW) hLs (by rw [HLl.out]; omega)
          have GP := Lib.hid fun (e : Ending) (W0 W : World) (h : EnvOut W0 (L.map (·.data.toList)) e W) => env_gets h hLz (by rw [List.length_map, HLl.out]; omega)
          have D51 := Lib.hid fun (f : Value) (W : World) => door51 f W (.inr trivial)
          have BWr : Hid (Below w.heap.size w wr) := Lib.hid ((HB1.out.trans (HB2.out.mono hw1)).trans (BW.out.mono (Nat.le_trans hw1 hw2)))
          clear hLs hLz hkk hans s23
          go_wp2_with (go_at_call 51; refine (D51.out _ _).mono ?_; rintro e W4 ⟨rfl, hw4⟩; have B4 : Hid (Below wr.heap.size wr W4) := Lib.hid (by rw [← hw4]; exact (Below.refl _ _).alloc (Nat.le_refl _) _); clear hw4 D51)
          go_wp2_with (go_at_call 139; refine (G139.out _ (BW.out.trans (B4.out.mono BW.out.size))).mono ?_; rintro e W5 ⟨rfl, hb5⟩; have B5 := Lib.hid (B4.out.trans (hb5.mono B4.out.size)); clear hb5 G139 B4)
          generalize hA1 : World.alloc W5 (.cells _ 34) = A1
          have N1 : Hid (A1.heap[W5.heap.size]? = some (.cells #[.bool bb, .bool false, .bool bb, .bool false, .int .u8 kk, .string ss, .slice none 0 0, .map none, .slice none 0 0] 34)) := Lib.hid (by rw [← hA1]; exact Array.getElem?_push_size)
          have BA1 : Hid (Below wr.heap.size wr A1) := Lib.hid (by rw [← hA1]; exact B5.out.alloc B5.out.size _)
          have Z1 : Hid (W5.heap.size < A1.heap.size) := Lib.hid (by rw [← hA1]; simp)
          clear hA1 B5
          go_wp2_with (go_at_call 19; refine (E19.out _ BA1.out).mono ?_; rintro e W6 h6; obtain ⟨sv, rfl, hb6, g6⟩ := GP.out _ _ _ h6; have C6 := Lib.hid hb6; have R6 := Lib.hid (g6 q W6 hq H61.out (Below.refl _ _)); clear h6 hb6 g6 E19 GP; rw [HANS.out] at R6)
          go_wp2_with (first | (go_at_call 141; refine R6.out.mono ?_; rintro e W7 ⟨rfl, hb7⟩; have C7 := Lib.hid (C6.out.trans (hb7.mono C6.out.size)); clear hb7 R6 C6; have Q1 : Hid ((W7.alloc (.cells #[.bool bb, .bool false, .bool bb, .bool false, .int .u8 kk, .string ss, .slice none 0 0, .map none, .slice none 0 0] 34)).heap[W5.heap.size]? = some (.cells #[.bool bb, .bool false, .bool bb, .bool false, .int .u8 kk, .string ss, .slice none 0 0, .map none, .slice none 0 0] 34)) := Lib.hid (by rw [Below.heap_alloc _ _ _ (Nat.lt_of_lt_of_le Z1.out C7.out.size), C7.out.block _ Z1.out]; exact N1.out); have Q7 : Hid ((W7.alloc (.cells #[.bool bb, .bool false, .bool bb, .bool false, .int .u8 kk, .string ss, .slice none 0 0, .map none, .slice none 0 0] 34)).heap[W7.heap.size]? = some (.cells #[.bool bb, .bool false, .bool bb, .bool false, .int .u8 kk, .string ss, .slice none 0 0, .map none, .slice none 0 0] 34)) := Lib.hid (Array.getElem?_push_size); have B7 : Hid (Below wr.heap.size wr (W7.alloc (.cells #[.bool bb, .bool false, .bool bb, .bool false, .int .u8 kk, .string ss, .slice none 0 0, .map none, .slice none 0 0] 34))) := Lib.hid ((BA1.out.trans (C7.out.mono BA1.out.size)).alloc (Nat.le_trans BA1.out.size C7.out.size) _); have r0 : (W7.alloc (.cells #[.bool bb, .bool false, .bool bb, .bool false, .int .u8 kk, .string ss, .slice none 0 0, .map none, .slice none 0 0] 34)).cell? ⟨W5.heap.size, 0, none⟩ = some (.bool bb) := cell_heap Q1.out 0 _ rfl; have r1 : (W7.alloc (.cells #[.bool bb, .bool false, .bool bb, .bool false, .int .u8 kk, .string ss, .slice none 0 0, .map none, .slice none 0 0] 34)).cell? ⟨W5.heap.size, 1, none⟩ = some (.bool false) := cell_heap Q1.out 1 _ rfl; have r2 : (W7.alloc (.cells #[.bool bb, .bool false, .bool bb, .bool false, .int .u8 kk, .string ss, .slice none 0 0, .map none, .slice none 0 0] 34)).cell? ⟨W5.heap.size, 2, none⟩ = some (.bool bb) := cell_heap Q1.out 2 _ rfl; have r3 : (W7.alloc (.cells #[.bool bb, .bool false, .bool bb, .bool false, .int .u8 kk, .string ss, .slice none 0 0, .map none, .slice none 0 0] 34)).cell? ⟨W5.heap.size, 3, none⟩ = some (.bool false) := cell_heap Q1.out 3 _ rfl; have r4 : (W7.alloc (.cells #[.bool bb, .bool false, .bool bb, .bool false, .int .u8 kk, .string ss, .slice none 0 0, .map none, .slice none 0 0] 34)).cell? ⟨W5.heap.size, 4, none⟩ = some (.int .u8 kk) := cell_heap Q1.out 4 _ rfl; have r5 : (W7.alloc (.cells #[.bool bb, .bool false, .bool bb, .bool false, .int .u8 kk, .string ss, .slice none 0 0, .map none, .slice none 0 0] 34)).cell? ⟨W5.heap.size, 5, none⟩ = some (.string ss) := cell_heap Q1.out 5 _ rfl; have r6 : (W7.alloc (.cells #[.bool bb, .bool false, .bool bb, .bool false, .int .u8 kk, .string ss, .slice none 0 0, .map none, .slice none 0 0] 34)).cell? ⟨W5.heap.size, 6, none⟩ = some (.slice none 0 0) := cell_heap Q1.out 6 _ rfl; have r7 : (W7.alloc (.cells #[.bool bb, .bool false, .bool bb, .bool false, .int .u8 kk, .string ss, .slice none 0 0, .map none, .slice none 0 0] 34)).cell? ⟨W5.heap.size, 7, none⟩ = some (.map none) := cell_heap Q1.out 7 _ rfl; have r8 : (W7.alloc (.cells #[.bool bb, .bool false, .bool bb, .bool false, .int .u8 kk, .string ss, .slice none 0 0, .map none, .slice none 0 0] 34)).cell? ⟨W5.heap.size, 8, none⟩ = some (.slice none 0 0) := cell_heap Q1.out 8 _ rfl; have t0 : (W7.alloc (.cells #[.bool bb, .bool false, .bool bb, .bool false, .int .u8 kk, .string ss, .slice none 0 0, .map none, .slice none 0 0] 34)).cell? ⟨W7.heap.size, 0, none⟩ = some (.bool bb) := cell_heap Q7.out 0 _ rfl; have t1 : (W7.alloc (.cells #[.bool bb, .bool false, .bool bb, .bool false, .int .u8 kk, .string ss, .slice none 0 0, .map none, .slice none 0 0] 34)).cell? ⟨W7.heap.size, 1, none⟩ = some (.bool false) := cell_heap Q7.out 1 _ rfl; have t2 : (W7.alloc (.cells #[.bool bb, .bool false, .bool bb, .bool false, .int .u8 kk, .string ss, .slice none 0 0, .map none, .slice none 0 0] 34)).cell? ⟨W7.heap.size, 2, none⟩ = some (.bool bb) := cell_heap Q7.out 2 _ rfl; have t3 : (W7.alloc (.cells #[.bool bb, .bool false, .bool bb, .bool false, .int .u8 kk, .string ss, .slice none 0 0, .map none, .slice none 0 0] 34)).cell? ⟨W7.heap.size, 3, none⟩ = some (.bool false) := cell_heap Q7.out 3 _ rfl; have t4 : (W7.alloc (.cells #[.bool bb, .bool false, .bool bb, .bool false, .int .u8 kk, .string ss, .slice none 0 0, .map none, .slice none 0 0] 34)).cell? ⟨W7.heap.size, 4, none⟩ = some (.int .u8 kk) := cell_heap Q7.out 4 _ rfl; have t5 : (W7.alloc (.cells #[.bool bb, .bool false, .bool bb, .bool false, .int .u8 kk, .string ss, .slice none 0 0, .map none, .slice none 0 0] 34)).cell? ⟨W7.heap.size, 5, none⟩ = some (.string ss) := cell_heap Q7.out 5 _ rfl; have t6 : (W7.alloc (.cells #[.bool bb, .bool false, .bool bb, .bool false, .int .u8 kk, .string ss, .slice none 0 0, .map none, .slice none 0 0] 34)).cell? ⟨W7.heap.size, 6, none⟩ = some (.slice none 0 0) := cell_heap Q7.out 6 _ rfl; have t7 : (W7.alloc (.cells #[.bool bb, .bool false, .bool bb, .bool false, .int .u8 kk, .string ss, .slice none 0 0, .map none, .slice none 0 0] 34)).cell? ⟨W7.heap.size, 7, none⟩ = some (.map none) := cell_heap Q7.out 7 _ rfl; have t8 : (W7.alloc (.cells #[.bool bb, .bool false, .bool bb, .bool false, .int .u8 kk, .string ss, .slice none 0 0, .map none, .slice none 0 0] 34)).cell? ⟨W7.heap.size, 8, none⟩ = some (.slice none 0 0) := cell_heap Q7.out 8 _ rfl) | (go_at_call 23; refine (S23.out _).mono ?_; rintro e W8 ⟨rfl, hb8⟩; have B8 := Lib.hid (B7.out.trans (hb8.mono B7.out.size)); clear hb8 S23))
          go_ret
          exact ⟨rfl, BWr.out.trans (B8.out.mono BWr.out.size)⟩

set_option maxRecDepth 20000 in
set_option maxHeartbeats 16000000 in
theorem law10b (a a2 : Option Addr) (c c2 : Nat) (P V : List ByteArray) (q : ByteArray) (w : World) (hv : Texts w (.slice a P.length c) P) (hv2 : Texts w (.slice a2 V.length c2) V) (hcase : ¬ V.length < P.length) :
    Calls Tryd.prog 10 #[.slice a P.length c, .slice a2 V.length c2, .string q] w fun e w' => e = .returned (.bool true) ∧ Below w.heap.size w w' := by
  have method_get : ∀ (sv : Value) (w : World), (method 342 97 (.agg #[.bool false, sv]) "Get").run Tryd.prog w = .ok (141, .agg #[.bool false, sv]) w := fun sv w => by kernel_rfl
  have method93 : ∀ (x y : Value) (w : World), (method 342 93 (.func (.func 52) #[.agg #[x, y]] #[]) "Get").run Tryd.prog w = .ok (139, .func (.func 52) #[.agg #[x, y]] #[]) w := fun x y w => by kernel_rfl
  have B50 := Lib.hid (bytes50 a a2 c c2 P V q w (texts_cells hv) (texts_cells hv2))
  have HV := Lib.hid hv
  have HV2 := Lib.hid hv2
  have hci : ¬ (V.length : Int) < (P.length : Int) := by omega
  have HR : Hid (Rows2 P V P.length) := Lib.hid (.inr ⟨by omega, rfl⟩)
  have hcb : decide (V.length < P.length) = false := by simpa using hcase
  clear hv hv2 hcase
  go_enter Tryd.func10, Tryd.ntmps10
  go_wp2_with (first | (go_at_call 50; go_must (refine B50.out.mono ?_); rintro e w' ⟨⟨b, rfl, hb⟩, rfl⟩; have HB := Lib.hid hb; clear hb B50))
  all_goals (try (go_ret; exact ⟨rfl, Below.refl _ _⟩))
  have hb1 : (!b) = false := by assumption
  have hS := HB.out (by simpa using hb1)
  have HS := Lib.hid hS.1
  have HS2 := Lib.hid hS.2.1
  have hq : q.size ≤ 1048576 := hS.2.2
  have hPi : (P.length : Int) ≤ 1048576 := by have := hS.1.1; omega
  have hVi : (V.length : Int) ≤ 1048576 := by have := hS.2.1.1; omega
  clear HB hb1 hS
  refine (strs16 a c P w HS.out (texts_cells HV.out)).mono ?_
  rintro e w' ⟨⟨n1, rfl, hn1⟩, rfl⟩
  go_wp2_with (fail)
  refine (strs16 a2 c2 V w HS2.out (texts_cells HV2.out)).mono ?_
  rintro e w' ⟨⟨n2, rfl, hn2⟩, rfl⟩
  go_wp2_with (fail)
  all_goals (try (go_ret; exact ⟨rfl, Below.refl _ _⟩))
  go_loopg [8] (P.length) (fun g v8 wr => ∃ k : Nat, v8 = .int .i64 k ∧ (k : Int) ≤ ((P.length : Nat) : Int) ∧ P.length - k ≤ g ∧ w = wr ∧ Hid (∀ j, j < k → RowOk P V j))
  case atStart => exact ⟨0, rfl, by omega, by omega, rfl, Lib.hid fun j hj => by omega⟩
  case round =>
    obtain ⟨k, rfl, hk, hg, hwr, OK⟩ := hrel
    subst hwr
    by_cases hlt : (k : Int) < ((P.length : Nat) : Int)
    · have hk1 : k < P.length := by omega
      have hk2 : k < V.length := by omega
      obtain ⟨x1, o1, rfl, hc1⟩ := texts_cells HV.out (by rintro rfl; simp at hk1)
      obtain ⟨x2, o2, rfl, hc2⟩ := texts_cells HV2.out (by rintro rfl; simp at hk2)
      have hx1 := hc1 k hk1
      have hx2 := hc2 k hk2
      have hki1 : (k : Int) < (P.length : Int) := by omega
      have hki2 : (k : Int) < (V.length : Int) := by omega
      have hsn := HS.out.2 k hk1
      obtain ⟨nm, hnm⟩ : ∃ nm, nm = P.getD k ByteArray.empty := ⟨_, rfl⟩
      obtain ⟨vl, hvl⟩ : ∃ vl, vl = V.getD k ByteArray.empty := ⟨_, rfl⟩
      rw [← hnm] at hx1 hsn
      rw [← hvl] at hx2
      have OK2 : Hid (nm.data.toList ≠ [] → NoEq nm → vl.data.toList ≠ [] → ∀ j, j < k + 1 → RowOk P V j) := Lib.hid fun h1 h2 h3 j hj => by
        by_cases e : j = k
        · subst e; unfold RowOk; rw [← hnm, ← hvl]; exact ⟨h1, h2, h3⟩
        · exact OK.out j (by omega)
      clear hc1 hc2 hnm hvl OK
      by_cases e1 : nm.toList = []
      · have e1b : nm.toList.isEmpty = true := by rw [e1]; rfl
        go_wp2
        go_ret
        exact ⟨rfl, Below.refl _ _⟩
      · have e1b : nm.toList.isEmpty = false := by simpa using e1
        have d1 : Hid (nm.data.toList ≠ []) := Lib.hid (by rw [ByteArray.toList_eq] at e1; exact e1)
        by_cases e2 : vl.toList = []
        · have e2b : vl.toList.isEmpty = true := by rw [e2]; rfl
          go_wp2_with (go_at_call 17; refine (has17 nm w (by omega)).mono ?_; rintro e w' ⟨⟨b3, rfl, hb3⟩, rfl⟩; clear hb3)
          all_goals (go_ret; exact ⟨rfl, Below.refl _ _⟩)
        · have e2b : vl.toList.isEmpty = false := by simpa using e2
          have d2 : Hid (vl.data.toList ≠ []) := Lib.hid (by rw [ByteArray.toList_eq] at e2; exact e2)
          go_wp2_with (go_at_call 17; refine (has17 nm w (by omega)).mono ?_; rintro e w' ⟨⟨b3, rfl, hb3⟩, rfl⟩; have HB3 := Lib.hid hb3; clear hb3)
          · go_ret
            exact ⟨rfl, Below.refl _ _⟩
          · have hb4 : ¬ b3 = true := by assumption
            have hb3 : b3 = false := by simpa using hb4
            have OK3 := Lib.hid (OK2.out d1.out (HB3.out hb3) d2.out)
            clear HB3 OK2 hb3 hb4
            go_roundg (P.length - (k + 1))
            case measure => omega
            case rel => exact ⟨k + 1, by go_num, by omega, Nat.le_refl _, rfl, OK3⟩
    · obtain rfl : k = P.length := by omega
      have HOK := Lib.hid OK.out
      clear OK hlt hk hg
      go_wp2_with (go_at_call 17; refine (has17 q w (by omega)).mono ?_; rintro e w' ⟨⟨b3, rfl, hb3⟩, rfl⟩; have HB3 := Lib.hid hb3; clear hb3)
      · go_ret
        exact ⟨rfl, Below.refl _ _⟩
      have hb3 : b3 = false := by assumption
      have H61 : Hid (NoEq q) := Lib.hid (HB3.out hb3)
      clear HB3 hb3
      refine (copy18 _ P w HV.out HS.out.1).mono ?_
      rintro e w1 ⟨⟨v', rfl, hT⟩, hB1⟩
      obtain ⟨a3, c3, hv', hc'⟩ := hT
      subst hv'
      have HT : Hid (Texts w1 (.slice a3 P.length c3) P) := Lib.hid ⟨a3, c3, rfl, hc'⟩
      have HB1 := Lib.hid hB1
      clear hc' hB1
      go_wp2_with (fail)
      refine (copy18 _ V w1 (texts_below HV2.out HB1.out) HS2.out.1).mono ?_
      rintro e w2 ⟨⟨v', rfl, hT⟩, hB2⟩
      obtain ⟨a4, c4, hv', hc'⟩ := hT
      subst hv'
      have HT2 : Hid (Texts w2 (.slice a4 V.length c4) V) := Lib.hid ⟨a4, c4, rfl, hc'⟩
      have HB2 := Lib.hid hB2
      have HTP : Hid (Texts w2 (.slice a3 P.length c3) P) := Lib.hid (texts_below HT.out hB2)
      clear hc' hB2 HT HV HV2
      have hw1 : w.heap.size ≤ w1.heap.size := HB1.out.size
      have hw2 : w1.heap.size ≤ w2.heap.size := HB2.out.size
      obtain ⟨cs, hcs, hmk⟩ := make22a (P.length) (by omega)
      obtain ⟨L, hL⟩ : ∃ L, L = pairsOf P V P.length := ⟨_, rfl⟩
      have hLl : L.length = P.length := by rw [hL]; exact pairs_length _ _ _
      have C0 : Hid (CopyAt L w2 w2.heap.size 0 cs (w2.alloc (.cells cs 9))) := Lib.hid ⟨by rw [hLl]; exact hcs, by show (w2.heap.push _)[w2.heap.size]? = _; exact Array.getElem?_push_size, fun j hj => by omega, (Below.refl _ _).alloc (Nat.le_refl _) _⟩
      have HL := Lib.hid hL
      have HLl := Lib.hid hLl
      clear hcs hL hLl
      go_wp2_with (fail)
      generalize hW : w2.alloc (.cells cs 9) = W3 at C0 ⊢
      clear hW hmk
      go_loopg [10] (P.length) (fun g v10 wr => ∃ (k : Nat) (ck : Array Value), v10 = .int .i64 k ∧ (k : Int) ≤ ((P.length : Nat) : Int) ∧ P.length - k ≤ g ∧ Hid (CopyAt L w2 w2.heap.size k ck wr))
      case atStart => exact ⟨0, cs, rfl, by omega, by omega, C0⟩
      case round =>
        clear C0
        obtain ⟨k, ck, rfl, hk, hg, CK⟩ := hrel
        by_cases hlt : (k : Int) < ((P.length : Nat) : Int)
        · have hk1 : k < P.length := by omega
          have hk2 : k < V.length := by omega
          obtain ⟨x1, o1, rfl, hc1⟩ := texts_cells (texts_below HTP.out CK.out.below) (by rintro rfl; simp at hk1)
          obtain ⟨x2, o2, rfl, hc2⟩ := texts_cells (texts_below HT2.out CK.out.below) (by rintro rfl; simp at hk2)
          have hx1 := hc1 k hk1
          have hx2 := hc2 k hk2
          have hki1 : (k : Int) < (P.length : Int) := by omega
          have hki2 : (k : Int) < (V.length : Int) := by omega
          have hkc : k < ck.size := by rw [CK.out.size, HLl.out]; omega
          have hyc : wr.cell? ⟨w2.heap.size, k, none⟩ = some ck[k] := cell_heap CK.out.heap k _ (Array.getElem?_eq_getElem hkc)
          have hf : wr.frozen? ⟨w2.heap.size, k, none⟩ = false := frozen_heap CK.out.heap k
          have sn1 := HS.out.2 k hk1
          have sn2 := HS2.out.2 k hk2
          have hst := CK.out.step (k := k) (by rw [HLl.out]; omega)
          rw [HL.out, pairs_getD P V _ k (by omega), ← HL.out] at hst
          obtain ⟨nm, hnm⟩ : ∃ nm, nm = P.getD k ByteArray.empty := ⟨_, rfl⟩
          obtain ⟨vl, hvl⟩ : ∃ vl, vl = V.getD k ByteArray.empty := ⟨_, rfl⟩
          rw [← hnm] at hx1 hst sn1
          rw [← hvl] at hx2 hst sn2
          have C2 := Lib.hid hst
          generalize ck.setIfInBounds k (.string (nm ++ { data := #[61] } ++ vl)) = ck2 at C2
          generalize ck[k] = old at hyc
          clear hc1 hc2 hnm hvl hst CK hkc
          go_wp2
          go_region
          all_goals go_wp2
          all_goals go_roundg (P.length - (k + 1))
          case measure => omega
          case rel => exact ⟨k + 1, ck2, by go_num, by omega, Nat.le_refl _, (by first | exact C2 | exact Lib.hid C2.out.drew)⟩
        · obtain rfl : k = P.length := by omega
          have hTX := CK.out
          rw [← HLl.out] at hTX
          have TX : Hid (Texts wr (.slice (some ⟨w2.heap.size, 0, none⟩) (P.length) (P.length)) L) := Lib.hid (by have h := hTX.texts; rw [HLl.out] at h; exact h)
          have BW := Lib.hid hTX.below
          clear hTX CK
          have hLs : ∀ s ∈ L, s.size ≤ 1073741824 := by
            intro s hs
            rw [HL.out] at hs
            unfold pairsOf at hs
            obtain ⟨j, hj, rfl⟩ := List.mem_map.1 hs
            rw [List.mem_range] at hj
            have h1 := HS.out.2 j (by omega)
            have h2 := HS2.out.2 j (by omega)
            have e : (({ data := #[61] } : ByteArray)).size = 1 := rfl
            rw [ByteArray.size_append, ByteArray.size_append, e]; omega
          have hLz : ∀ z ∈ L.map (·.data.toList), z.length ≤ 1073741824 := fun z hz => by
            obtain ⟨s, hs, rfl⟩ := List.mem_map.1 hz
            rw [Array.length_toList]; exact hLs s hs
          obtain ⟨bb, kk, ss, hkk, hans, _⟩ := answer_form4 (Envp.look (L.map (·.data.toList)) q.data.toList) q.size
          have s23 := fun W => same23a (Envp.look (L.map (·.data.toList)) q.data.toList) q.size W
          rw [hans] at s23
          have S23 := Lib.hid s23
          have HANS := Lib.hid hans
          have G139 : Hid (∀ W : World, Below w2.heap.size w2 W → Calls Tryd.prog 139 #[.func (.func 52) #[.agg #[.slice a3 P.length c3, .slice a4 V.length c4]] #[], .string q] W fun e w' => e = .returned (.agg #[.bool bb, .bool false, .bool bb, .bool false, .int .u8 kk, .string ss, .slice none 0 0, .map none, .slice none 0 0]) ∧ Below W.heap.size W w') := Lib.hid fun W hW => by
            have h := get139 a3 a4 c3 c4 P V (P.length) q W (texts_below HTP.out hW) (texts_below HT2.out hW) HR.out HS.out.1 HS2.out.1 HOK.out
            rw [← HL.out, HANS.out] at h
            exact h
          have E19 := Lib.hid fun (W : World) (hW : Below wr.heap.size wr W) => env19 (.slice (some ⟨w2.heap.size, 0, none⟩) (P.length) (P.length)) L W (texts_below TX.out hW) hLs (by rw [HLl.out]; omega)
          have GP := Lib.hid fun (e : Ending) (W0 W : World) (h : EnvOut W0 (L.map (·.data.toList)) e W) => env_gets h hLz (by rw [List.length_map, HLl.out]; omega)
          have D51 := Lib.hid fun (f : Value) (W : World) => door51 f W (.inr trivial)
          have BWr : Hid (Below w.heap.size w wr) := Lib.hid ((HB1.out.trans (HB2.out.mono hw1)).trans (BW.out.mono (Nat.le_trans hw1 hw2)))
          clear hLs hLz hkk hans s23
          go_wp2_with (go_at_call 51; refine (D51.out _ _).mono ?_; rintro e W4 ⟨rfl, hw4⟩; have B4 : Hid (Below wr.heap.size wr W4) := Lib.hid (by rw [← hw4]; exact (Below.refl _ _).alloc (Nat.le_refl _) _); clear hw4 D51)
          go_wp2_with (go_at_call 139; refine (G139.out _ (BW.out.trans (B4.out.mono BW.out.size))).mono ?_; rintro e W5 ⟨rfl, hb5⟩; have B5 := Lib.hid (B4.out.trans (hb5.mono B4.out.size)); clear hb5 G139 B4)
          generalize hA1 : World.alloc W5 (.cells _ 34) = A1
          have N1 : Hid (A1.heap[W5.heap.size]? = some (.cells #[.bool bb, .bool false, .bool bb, .bool false, .int .u8 kk, .string ss, .slice none 0 0, .map none, .slice none 0 0] 34)) := Lib.hid (by rw [← hA1]; exact Array.getElem?_push_size)
          have BA1 : Hid (Below wr.heap.size wr A1) := Lib.hid (by rw [← hA1]; exact B5.out.alloc B5.out.size _)
          have Z1 : Hid (W5.heap.size < A1.heap.size) := Lib.hid (by rw [← hA1]; simp)
          clear hA1 B5
          go_wp2_with (go_at_call 19; refine (E19.out _ BA1.out).mono ?_; rintro e W6 h6; obtain ⟨sv, rfl, hb6, g6⟩ := GP.out _ _ _ h6; have C6 := Lib.hid hb6; have R6 := Lib.hid (g6 q W6 hq H61.out (Below.refl _ _)); clear h6 hb6 g6 E19 GP; rw [HANS.out] at R6)
          go_wp2_with (first | (go_at_call 141; refine R6.out.mono ?_; rintro e W7 ⟨rfl, hb7⟩; have C7 := Lib.hid (C6.out.trans (hb7.mono C6.out.size)); clear hb7 R6 C6; have Q1 : Hid ((W7.alloc (.cells #[.bool bb, .bool false, .bool bb, .bool false, .int .u8 kk, .string ss, .slice none 0 0, .map none, .slice none 0 0] 34)).heap[W5.heap.size]? = some (.cells #[.bool bb, .bool false, .bool bb, .bool false, .int .u8 kk, .string ss, .slice none 0 0, .map none, .slice none 0 0] 34)) := Lib.hid (by rw [Below.heap_alloc _ _ _ (Nat.lt_of_lt_of_le Z1.out C7.out.size), C7.out.block _ Z1.out]; exact N1.out); have Q7 : Hid ((W7.alloc (.cells #[.bool bb, .bool false, .bool bb, .bool false, .int .u8 kk, .string ss, .slice none 0 0, .map none, .slice none 0 0] 34)).heap[W7.heap.size]? = some (.cells #[.bool bb, .bool false, .bool bb, .bool false, .int .u8 kk, .string ss, .slice none 0 0, .map none, .slice none 0 0] 34)) := Lib.hid (Array.getElem?_push_size); have B7 : Hid (Below wr.heap.size wr (W7.alloc (.cells #[.bool bb, .bool false, .bool bb, .bool false, .int .u8 kk, .string ss, .slice none 0 0, .map none, .slice none 0 0] 34))) := Lib.hid ((BA1.out.trans (C7.out.mono BA1.out.size)).alloc (Nat.le_trans BA1.out.size C7.out.size) _); have r0 : (W7.alloc (.cells #[.bool bb, .bool false, .bool bb, .bool false, .int .u8 kk, .string ss, .slice none 0 0, .map none, .slice none 0 0] 34)).cell? ⟨W5.heap.size, 0, none⟩ = some (.bool bb) := cell_heap Q1.out 0 _ rfl; have r1 : (W7.alloc (.cells #[.bool bb, .bool false, .bool bb, .bool false, .int .u8 kk, .string ss, .slice none 0 0, .map none, .slice none 0 0] 34)).cell? ⟨W5.heap.size, 1, none⟩ = some (.bool false) := cell_heap Q1.out 1 _ rfl; have r2 : (W7.alloc (.cells #[.bool bb, .bool false, .bool bb, .bool false, .int .u8 kk, .string ss, .slice none 0 0, .map none, .slice none 0 0] 34)).cell? ⟨W5.heap.size, 2, none⟩ = some (.bool bb) := cell_heap Q1.out 2 _ rfl; have r3 : (W7.alloc (.cells #[.bool bb, .bool false, .bool bb, .bool false, .int .u8 kk, .string ss, .slice none 0 0, .map none, .slice none 0 0] 34)).cell? ⟨W5.heap.size, 3, none⟩ = some (.bool false) := cell_heap Q1.out 3 _ rfl; have r4 : (W7.alloc (.cells #[.bool bb, .bool false, .bool bb, .bool false, .int .u8 kk, .string ss, .slice none 0 0, .map none, .slice none 0 0] 34)).cell? ⟨W5.heap.size, 4, none⟩ = some (.int .u8 kk) := cell_heap Q1.out 4 _ rfl; have r5 : (W7.alloc (.cells #[.bool bb, .bool false, .bool bb, .bool false, .int .u8 kk, .string ss, .slice none 0 0, .map none, .slice none 0 0] 34)).cell? ⟨W5.heap.size, 5, none⟩ = some (.string ss) := cell_heap Q1.out 5 _ rfl; have r6 : (W7.alloc (.cells #[.bool bb, .bool false, .bool bb, .bool false, .int .u8 kk, .string ss, .slice none 0 0, .map none, .slice none 0 0] 34)).cell? ⟨W5.heap.size, 6, none⟩ = some (.slice none 0 0) := cell_heap Q1.out 6 _ rfl; have r7 : (W7.alloc (.cells #[.bool bb, .bool false, .bool bb, .bool false, .int .u8 kk, .string ss, .slice none 0 0, .map none, .slice none 0 0] 34)).cell? ⟨W5.heap.size, 7, none⟩ = some (.map none) := cell_heap Q1.out 7 _ rfl; have r8 : (W7.alloc (.cells #[.bool bb, .bool false, .bool bb, .bool false, .int .u8 kk, .string ss, .slice none 0 0, .map none, .slice none 0 0] 34)).cell? ⟨W5.heap.size, 8, none⟩ = some (.slice none 0 0) := cell_heap Q1.out 8 _ rfl; have t0 : (W7.alloc (.cells #[.bool bb, .bool false, .bool bb, .bool false, .int .u8 kk, .string ss, .slice none 0 0, .map none, .slice none 0 0] 34)).cell? ⟨W7.heap.size, 0, none⟩ = some (.bool bb) := cell_heap Q7.out 0 _ rfl; have t1 : (W7.alloc (.cells #[.bool bb, .bool false, .bool bb, .bool false, .int .u8 kk, .string ss, .slice none 0 0, .map none, .slice none 0 0] 34)).cell? ⟨W7.heap.size, 1, none⟩ = some (.bool false) := cell_heap Q7.out 1 _ rfl; have t2 : (W7.alloc (.cells #[.bool bb, .bool false, .bool bb, .bool false, .int .u8 kk, .string ss, .slice none 0 0, .map none, .slice none 0 0] 34)).cell? ⟨W7.heap.size, 2, none⟩ = some (.bool bb) := cell_heap Q7.out 2 _ rfl; have t3 : (W7.alloc (.cells #[.bool bb, .bool false, .bool bb, .bool false, .int .u8 kk, .string ss, .slice none 0 0, .map none, .slice none 0 0] 34)).cell? ⟨W7.heap.size, 3, none⟩ = some (.bool false) := cell_heap Q7.out 3 _ rfl; have t4 : (W7.alloc (.cells #[.bool bb, .bool false, .bool bb, .bool false, .int .u8 kk, .string ss, .slice none 0 0, .map none, .slice none 0 0] 34)).cell? ⟨W7.heap.size, 4, none⟩ = some (.int .u8 kk) := cell_heap Q7.out 4 _ rfl; have t5 : (W7.alloc (.cells #[.bool bb, .bool false, .bool bb, .bool false, .int .u8 kk, .string ss, .slice none 0 0, .map none, .slice none 0 0] 34)).cell? ⟨W7.heap.size, 5, none⟩ = some (.string ss) := cell_heap Q7.out 5 _ rfl; have t6 : (W7.alloc (.cells #[.bool bb, .bool false, .bool bb, .bool false, .int .u8 kk, .string ss, .slice none 0 0, .map none, .slice none 0 0] 34)).cell? ⟨W7.heap.size, 6, none⟩ = some (.slice none 0 0) := cell_heap Q7.out 6 _ rfl; have t7 : (W7.alloc (.cells #[.bool bb, .bool false, .bool bb, .bool false, .int .u8 kk, .string ss, .slice none 0 0, .map none, .slice none 0 0] 34)).cell? ⟨W7.heap.size, 7, none⟩ = some (.map none) := cell_heap Q7.out 7 _ rfl; have t8 : (W7.alloc (.cells #[.bool bb, .bool false, .bool bb, .bool false, .int .u8 kk, .string ss, .slice none 0 0, .map none, .slice none 0 0] 34)).cell? ⟨W7.heap.size, 8, none⟩ = some (.slice none 0 0) := cell_heap Q7.out 8 _ rfl) | (go_at_call 23; refine (S23.out _).mono ?_; rintro e W8 ⟨rfl, hb8⟩; have B8 := Lib.hid (B7.out.trans (hb8.mono B7.out.size)); clear hb8 S23))
          go_ret
          exact ⟨rfl, BWr.out.trans (B8.out.mono BWr.out.size)⟩

theorem law10 (a : Option Addr) (c : Nat) (P : List ByteArray) (a2 : Option Addr) (c2 : Nat) (V : List ByteArray) (q : ByteArray) (w : World) (hv : Texts w (.slice a P.length c) P) (hv2 : Texts w (.slice a2 V.length c2) V) :
    Calls Tryd.prog 10 #[.slice a P.length c, .slice a2 V.length c2, .string q] w fun e w' => e = .returned (.bool true) ∧ Below w.heap.size w w' := by
  by_cases h : V.length < P.length
  · exact law10a a a2 c c2 P V q w hv hv2 h
  · exact law10b a a2 c c2 P V q w hv hv2 h
end Go.Proofs.YthihppocokkoiaaDoor
