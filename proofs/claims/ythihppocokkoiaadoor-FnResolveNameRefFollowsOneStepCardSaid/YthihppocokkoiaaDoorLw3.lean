/-
  The walk of FnResolveNameRefFollowsOneStep. Conditions: those in each theorem.
-/
import Derived.Test.YthihppocokkoiaaDoorLwQ
namespace Go.Proofs.YthihppocokkoiaaDoor
set_option linter.unusedVariables false
open Go.Shelf Go.RowKit Go.Lib Go.Sort

theorem answer_form3 (o : Option (List UInt8)) (n : Nat) : ∃ (b : Bool) (k : Int) (s : ByteArray), (k = 0 ∨ k = 1) ∧ answer o n = .agg #[.bool b, .bool false, .bool b, .bool false, .int .u8 k, .string s, .slice none 0 0, .map none, .slice none 0 0] ∧
    ((o = none ∧ b = false ∧ k = 0 ∧ s = ⟨#[]⟩) ∨ (∃ x, o = some x ∧ b = true ∧ k = 1 ∧ s = (⟨x.toArray⟩ : ByteArray).extract (n + 1) (⟨x.toArray⟩ : ByteArray).size)) := by
  cases o with
  | none => exact ⟨false, 0, _, .inl rfl, rfl, .inl ⟨rfl, rfl, rfl, rfl⟩⟩
  | some x => exact ⟨true, 1, _, .inr rfl, rfl, .inr ⟨x, rfl, rfl, rfl, rfl⟩⟩

set_option maxRecDepth 20000 in
set_option maxHeartbeats 16000000 in
theorem law3 (a : Option Addr) (c : Nat) (P : List ByteArray) (q : ByteArray) (b0 b2 : Bool) (w : World) (hv : Texts w (.slice a P.length c) P) :
    Calls Tryd.prog 3 #[.slice a P.length c, .string q, .bool b0, .bool b2] w fun e w' => e = .returned (.bool true) ∧ Below w.heap.size w w' := by
  have B15 := Lib.hid (bytes15 a c P q b0 b2 w (texts_cells hv))
  have HV := Lib.hid hv
  clear hv
  go_enter Tryd.func3, Tryd.ntmps3
  go_wp2_with (first | (go_at_call 15; go_must (refine B15.out.mono ?_); rintro e w' ⟨⟨b, rfl, hb⟩, rfl⟩; have HB := Lib.hid hb; clear hb B15))
  all_goals (try (go_ret; exact ⟨rfl, Below.refl _ _⟩))
  have hb1 : (!b) = false := by assumption
  have hS := HB.out (by simpa using hb1)
  have HS := Lib.hid hS.1
  have hq : q.size ≤ 1048576 := hS.2
  clear HB hb1 hS
  refine (strs16 a c P w HS.out (texts_cells HV.out)).mono ?_
  rintro e w' ⟨⟨n, rfl, hn⟩, rfl⟩
  go_wp2_with (fail)
  all_goals (try (go_ret; exact ⟨rfl, Below.refl _ _⟩))
  refine (has17 q w (by omega)).mono ?_
  rintro e w' ⟨⟨b3, rfl, hb3⟩, rfl⟩
  have HB3 := Lib.hid hb3
  clear hb3
  go_wp2_with (fail)
  all_goals (try (go_ret; exact ⟨rfl, Below.refl _ _⟩))
  have hb3 : b3 = false := by assumption
  have H61 : Hid (NoEq q) := Lib.hid (HB3.out hb3)
  clear HB3 hb3
  refine (copy18 _ P w HV.out HS.out.1).mono ?_
  rintro e w1 ⟨⟨v', rfl, hT⟩, hB1⟩
  obtain ⟨a', c', hv', hc'⟩ := hT
  subst hv'
  have HT : Hid (Texts w1 (.slice a' P.length c') P) := Lib.hid ⟨a', c', rfl, hc'⟩
  have HB1 := Lib.hid hB1
  clear hc' hB1 HV
  have hw1 : w.heap.size ≤ w1.heap.size := HB1.out.size
  have hn2 : (P.length : Int) ≤ 1048576 := by have := HS.out.1; omega
  have z3 : ∀ z ∈ P.map (·.data.toList), z.length ≤ 1073741824 := fun z hz => by
    obtain ⟨s, hs, rfl⟩ := List.mem_map.1 hz
    have := small_mem HS.out s hs
    rw [Array.length_toList]; show s.size ≤ _; omega
  have GP := Lib.hid fun (e : Ending) (W0 W : World) (h : EnvOut W0 (P.map (·.data.toList)) e W) => env_gets h z3 (by rw [List.length_map]; omega)
  have E1 := Lib.hid (env19 (.slice a' P.length c') P w1 HT.out (fun s hs => by have := small_mem HS.out s hs; omega) HS.out.1)
  obtain ⟨bb, kk, ss, hkk, hans, hdi⟩ := answer_form3 (Envp.look (P.map (·.data.toList)) q.data.toList) q.size
  have HANS := Lib.hid hans
  have HDI := Lib.hid hdi
  have HKK := Lib.hid hkk
  clear z3 hkk hans hdi
  go_wp2_with (go_at_call 19; refine E1.out.mono ?_; rintro e W2 h2; obtain ⟨sv, rfl, hb2, g2⟩ := GP.out _ _ _ h2; have B2 := Lib.hid hb2; have G2 : Hid (∀ W : World, Below W2.heap.size W2 W → Calls Tryd.prog 141 #[.agg #[.bool false, sv], .string q] W fun e w' => e = .returned (.agg #[.bool bb, .bool false, .bool bb, .bool false, .int .u8 kk, .string ss, .slice none 0 0, .map none, .slice none 0 0]) ∧ Below W.heap.size W w') := Lib.hid fun W hW => (by have h := g2 q W hq H61.out hW; rw [HANS.out] at h; exact h); clear h2 hb2 g2 E1 GP)
  have hb3 := fun (o : Obj) => (Below.refl W2.heap.size W2).alloc (Nat.le_refl _) o
  have HB3 := Lib.hid hb3
  clear hb3
  go_wp2_with (go_at_call 20; refine (res20_ref b2 b0 bb kk q ss sv _ HKK.out (Lib.hid fun W hW => G2.out W ((HB3.out _).trans (hW.mono (HB3.out _).size)))).mono ?_; rintro e W3 ⟨rfl, hb3⟩; have B3 := Lib.hid ((HB3.out _).trans (hb3.mono (HB3.out _).size)); clear hb3 HB3)
  generalize hWW : World.alloc W3 (.cells _ 34) = WW
  have N3 : Hid (WW.heap[W3.heap.size]? = some (.cells #[.bool bb, .bool false, .bool bb, .bool false, .int .u8 kk, .string ss, .slice none 0 0, .map none, .slice none 0 0] 34)) := Lib.hid (by rw [← hWW]; exact Array.getElem?_push_size)
  have BW : Hid (Below w1.heap.size w1 WW) := Lib.hid (by rw [← hWW]; exact (B2.out.trans (B3.out.mono B2.out.size)).alloc (Nat.le_trans B2.out.size B3.out.size) _)
  have B3W : Hid (Below W2.heap.size W2 WW) := Lib.hid (by rw [← hWW]; exact B3.out.alloc B3.out.size _)
  have Z3 : Hid (W3.heap.size < WW.heap.size) := Lib.hid (by rw [← hWW]; simp)
  have FN0 : Hid (Fnd q false ⟨#[]⟩ (Envp.look ((P.take 0).map (·.data.toList)) q.data.toList)) := Lib.hid rfl
  clear hWW B3
  go_loopg [13, 14, 15] (P.length) (fun g v13 v14 v15 wr => ∃ (b : Bool) (s : ByteArray) (k : Nat), v13 = .bool b ∧ v14 = .string s ∧ v15 = .int .i64 k ∧ (k : Int) ≤ (P.length : Int) ∧ P.length - k ≤ g ∧ wr = WW ∧ Hid (Fnd q b s (Envp.look ((P.take k).map (·.data.toList)) q.data.toList)))
  case atStart => exact ⟨false, ⟨#[]⟩, 0, rfl, rfl, rfl, by omega, by omega, rfl, FN0⟩
  case round =>
    clear FN0
    obtain ⟨bf, sf, k, rfl, rfl, rfl, hk, hg, hwr, FN⟩ := hrel
    subst hwr
    by_cases hlt : (k : Int) < (P.length : Int)
    · have hkn : k < P.length := by omega
      obtain ⟨bx, off, rfl, hcell⟩ := texts_cells (texts_below HT.out BW.out) (by rintro rfl; simp at hkn)
      have hx := hcell k hkn
      have hsz := HS.out.2 k hkn
      obtain ⟨p, hp⟩ : ∃ p, p = P.getD k ByteArray.empty := ⟨_, rfl⟩
      rw [← hp] at hx hsz
      have HP := Lib.hid hp
      have hpi : (p.size : Int) ≤ 1048576 := by omega
      clear hcell hp hsz
      go_wp2
      go_loopg [17, 18] (p.size) (fun g v17 v18 wx => ∃ j : Nat, v17 = .int .i64 (-1) ∧ v18 = .int .i64 j ∧ (j : Int) ≤ (p.size : Int) ∧ p.size - j ≤ g ∧ wx = wr ∧ Hid (∀ i, i < j → p.data.toList[i]? ≠ some 61))
      case atStart => exact ⟨0, rfl, rfl, by omega, by omega, rfl, Lib.hid fun i hi => by omega⟩
      case round =>
        obtain ⟨j, rfl, rfl, hj, hg2, hwx, HF⟩ := hrel
        subst hwx
        by_cases hjl : (j : Int) < (p.size : Int)
        · have hjn : j < p.size := by omega
          by_cases c : p[j] = 61
          · have c' : ((p[j].toNat : Nat) : Int) = 61 := by rw [c]; rfl
            have hea : Envp.eqAt p.data.toList = (j : Int) := ib_hit _ j HF.out (by rw [Lib.data_getElem? p j hjn, c])
            by_cases hj0 : j = 0
            · subst hj0
              have FN2 := Lib.hid (fnd_same hkn HP.out (name_no0 (by rw [hea]; omega)) FN.out)
              clear c hea
              go_wp2
              go_roundg (P.length - (k + 1))
              case measure => omega
              case rel => exact ⟨bf, sf, k + 1, rfl, rfl, by go_num, by omega, Nat.le_refl _, rfl, FN2⟩
            · have hpos : 0 < j := by omega
              have hnm := name_kk (q := q) hpos hea
              have hsize := fun h => name_size (q := q) hea h
              have p0 : (0 : Int) < (j : Int) := by omega
              have p1 : (j : Int) ≤ (p.size : Int) := by omega
              have p2 : (j : Int) + 1 ≤ (p.size : Int) := by omega
              cases c2 : ((p.extract 0 j).toList == q.toList) with
              | true =>
                rw [c2] at hnm
                have FN2 : Hid (Fnd q true (p.extract (j + 1) p.size) (Envp.look ((P.take (k + 1)).map (·.data.toList)) q.data.toList)) := Lib.hid (by have e := hsize c2; rw [e]; exact fnd_new hkn HP.out hnm)
                clear c hea hnm hsize FN
                go_wp2
                go_roundg (P.length - (k + 1))
                case measure => omega
                case rel => exact ⟨true, _, k + 1, rfl, rfl, by go_num, by omega, Nat.le_refl _, rfl, FN2⟩
              | false =>
                rw [c2] at hnm
                have FN2 := Lib.hid (fnd_same hkn HP.out hnm FN.out)
                clear c hea hnm hsize FN
                go_wp2
                go_roundg (P.length - (k + 1))
                case measure => omega
                case rel => exact ⟨bf, sf, k + 1, rfl, rfl, by go_num, by omega, Nat.le_refl _, rfl, FN2⟩
          · have HF2 := Lib.hid (ib_step p j hjn c HF.out)
            have c' : ¬ ((p[j].toNat : Nat) : Int) = 61 := fun h => c (Lib.byte_eq_of_toNat h)
            clear c
            go_wp2
            go_roundg (p.size - (j + 1))
            case measure => omega
            case rel => exact ⟨j + 1, rfl, by go_num, by omega, Nat.le_refl _, rfl, HF2⟩
        · have hea : Envp.eqAt p.data.toList = -1 := ib_none _ (fun i hi => HF.out i (by have hl : p.data.toList.length = p.size := (by simp); omega))
          have FN2 := Lib.hid (fnd_same hkn HP.out (name_no0 (by rw [hea]; omega)) FN.out)
          clear hea
          go_wp2
          go_roundg (P.length - (k + 1))
          case measure => omega
          case rel => exact ⟨bf, sf, k + 1, rfl, rfl, by go_num, by omega, Nat.le_refl _, rfl, FN2⟩
    · have hkk : k = P.length := by omega
      have FE := FN.out
      rw [hkk, List.take_length] at FE
      clear FN hkk
      have qq : (q.toList == q.toList) = true := by simp
      rcases HDI.out with ⟨HL, rfl, rfl, rfl⟩ | ⟨x, HL, rfl, rfl, rfl⟩
      · rw [HL] at FE
        unfold Fnd at FE
        simp only at FE
        subst FE
        have r0 : wr.cell? ⟨W3.heap.size, 0, none⟩ = some (.bool false) := cell_heap N3.out 0 _ rfl
        have r1 : wr.cell? ⟨W3.heap.size, 1, none⟩ = some (.bool false) := cell_heap N3.out 1 _ rfl
        have r2 : wr.cell? ⟨W3.heap.size, 2, none⟩ = some (.bool false) := cell_heap N3.out 2 _ rfl
        have r3 : wr.cell? ⟨W3.heap.size, 3, none⟩ = some (.bool false) := cell_heap N3.out 3 _ rfl
        have r4 : wr.cell? ⟨W3.heap.size, 4, none⟩ = some (.int .u8 0) := cell_heap N3.out 4 _ rfl
        have r5 : wr.cell? ⟨W3.heap.size, 5, none⟩ = some (.string ⟨#[]⟩) := cell_heap N3.out 5 _ rfl
        have r6 : wr.cell? ⟨W3.heap.size, 6, none⟩ = some (.slice none 0 0) := cell_heap N3.out 6 _ rfl
        have r7 : wr.cell? ⟨W3.heap.size, 7, none⟩ = some (.map none) := cell_heap N3.out 7 _ rfl
        have r8 : wr.cell? ⟨W3.heap.size, 8, none⟩ = some (.slice none 0 0) := cell_heap N3.out 8 _ rfl
        clear HL HDI HANS
        go_wp2_with (go_at_call 21; refine (zero21 _).mono ?_; rintro e W4 ⟨rfl, hb4⟩; have B4 := Lib.hid (BW.out.trans (hb4.mono BW.out.size)); clear hb4)
        go_ret
        exact ⟨rfl, HB1.out.trans (B4.out.mono hw1)⟩
      · rw [HL] at FE HANS
        unfold Fnd at FE
        simp only at FE
        obtain ⟨rfl, rfl⟩ := FE
        generalize hxs : (⟨x.toArray⟩ : ByteArray).extract (q.size + 1) (⟨x.toArray⟩ : ByteArray).size = xs at *
        have r20 := fun (iv : Value) (W : World) => res20_id true false true false 1 xs none 0 0 none none 0 0 iv W (by omega) (by omega)
        unfold varL at r20
        have R20 := Lib.hid r20
        have s23 := fun (W : World) => same23s xs W
        unfold strVar at s23
        have S23 := Lib.hid s23
        clear r20 s23
        have r0 : wr.cell? ⟨W3.heap.size, 0, none⟩ = some (.bool true) := cell_heap N3.out 0 _ rfl
        have r1 : wr.cell? ⟨W3.heap.size, 1, none⟩ = some (.bool false) := cell_heap N3.out 1 _ rfl
        have r2 : wr.cell? ⟨W3.heap.size, 2, none⟩ = some (.bool true) := cell_heap N3.out 2 _ rfl
        have r3 : wr.cell? ⟨W3.heap.size, 3, none⟩ = some (.bool false) := cell_heap N3.out 3 _ rfl
        have r4 : wr.cell? ⟨W3.heap.size, 4, none⟩ = some (.int .u8 1) := cell_heap N3.out 4 _ rfl
        have r5 : wr.cell? ⟨W3.heap.size, 5, none⟩ = some (.string xs) := cell_heap N3.out 5 _ rfl
        have r6 : wr.cell? ⟨W3.heap.size, 6, none⟩ = some (.slice none 0 0) := cell_heap N3.out 6 _ rfl
        have r7 : wr.cell? ⟨W3.heap.size, 7, none⟩ = some (.map none) := cell_heap N3.out 7 _ rfl
        have r8 : wr.cell? ⟨W3.heap.size, 8, none⟩ = some (.slice none 0 0) := cell_heap N3.out 8 _ rfl
        clear HL HDI HANS hxs
        go_wp2_with (go_at_call 22; refine (str22 xs _).mono ?_; rintro e W4 ⟨rfl, hb4⟩; have B4 := Lib.hid (BW.out.trans (hb4.mono BW.out.size)); have N4 : Hid (W4.heap[W3.heap.size]? = some (.cells #[.bool true, .bool false, .bool true, .bool false, .int .u8 1, .string xs, .slice none 0 0, .map none, .slice none 0 0] 34)) := Lib.hid ((hb4.block _ Z3.out).trans N3.out); have Z4 : Hid (W3.heap.size < W4.heap.size) := Lib.hid (Nat.lt_of_lt_of_le Z3.out hb4.size); clear hb4; clear r0 r1 r2 r3 r4 r5 r6 r7 r8; have t0 : W4.cell? ⟨W3.heap.size, 0, none⟩ = some (.bool true) := cell_heap N4.out 0 _ rfl; have t1 : W4.cell? ⟨W3.heap.size, 1, none⟩ = some (.bool false) := cell_heap N4.out 1 _ rfl; have t2 : W4.cell? ⟨W3.heap.size, 2, none⟩ = some (.bool true) := cell_heap N4.out 2 _ rfl; have t3 : W4.cell? ⟨W3.heap.size, 3, none⟩ = some (.bool false) := cell_heap N4.out 3 _ rfl; have t4 : W4.cell? ⟨W3.heap.size, 4, none⟩ = some (.int .u8 1) := cell_heap N4.out 4 _ rfl; have t5 : W4.cell? ⟨W3.heap.size, 5, none⟩ = some (.string xs) := cell_heap N4.out 5 _ rfl; have t6 : W4.cell? ⟨W3.heap.size, 6, none⟩ = some (.slice none 0 0) := cell_heap N4.out 6 _ rfl; have t7 : W4.cell? ⟨W3.heap.size, 7, none⟩ = some (.map none) := cell_heap N4.out 7 _ rfl; have t8 : W4.cell? ⟨W3.heap.size, 8, none⟩ = some (.slice none 0 0) := cell_heap N4.out 8 _ rfl)
        clear t0 t1 t2 t3 t4 t5 t6 t7 t8
        go_wp2_with (first | (go_at_call 20; refine (R20.out _ _).mono ?_; rintro e W5 ⟨rfl, hb5⟩; have B5 := Lib.hid (B4.out.trans (hb5.mono B4.out.size)); have Q3 : Hid ((W5.alloc (.cells #[.bool true, .bool false, .bool true, .bool false, .int .u8 1, .string xs, .slice none 0 0, .map none, .slice none 0 0] 34)).heap[W3.heap.size]? = some (.cells #[.bool true, .bool false, .bool true, .bool false, .int .u8 1, .string xs, .slice none 0 0, .map none, .slice none 0 0] 34)) := Lib.hid (by rw [Below.heap_alloc _ _ _ (Nat.lt_of_lt_of_le Z4.out hb5.size), hb5.block _ Z4.out]; exact N4.out); have Q5 : Hid ((W5.alloc (.cells #[.bool true, .bool false, .bool true, .bool false, .int .u8 1, .string xs, .slice none 0 0, .map none, .slice none 0 0] 34)).heap[W5.heap.size]? = some (.cells #[.bool true, .bool false, .bool true, .bool false, .int .u8 1, .string xs, .slice none 0 0, .map none, .slice none 0 0] 34)) := Lib.hid (Array.getElem?_push_size); have B6 : Hid (Below w1.heap.size w1 (W5.alloc (.cells #[.bool true, .bool false, .bool true, .bool false, .int .u8 1, .string xs, .slice none 0 0, .map none, .slice none 0 0] 34))) := Lib.hid (B5.out.alloc B5.out.size _); clear hb5 R20; have u0 : (W5.alloc (.cells #[.bool true, .bool false, .bool true, .bool false, .int .u8 1, .string xs, .slice none 0 0, .map none, .slice none 0 0] 34)).cell? ⟨W3.heap.size, 0, none⟩ = some (.bool true) := cell_heap Q3.out 0 _ rfl; have u1 : (W5.alloc (.cells #[.bool true, .bool false, .bool true, .bool false, .int .u8 1, .string xs, .slice none 0 0, .map none, .slice none 0 0] 34)).cell? ⟨W3.heap.size, 1, none⟩ = some (.bool false) := cell_heap Q3.out 1 _ rfl; have u2 : (W5.alloc (.cells #[.bool true, .bool false, .bool true, .bool false, .int .u8 1, .string xs, .slice none 0 0, .map none, .slice none 0 0] 34)).cell? ⟨W3.heap.size, 2, none⟩ = some (.bool true) := cell_heap Q3.out 2 _ rfl; have u3 : (W5.alloc (.cells #[.bool true, .bool false, .bool true, .bool false, .int .u8 1, .string xs, .slice none 0 0, .map none, .slice none 0 0] 34)).cell? ⟨W3.heap.size, 3, none⟩ = some (.bool false) := cell_heap Q3.out 3 _ rfl; have u4 : (W5.alloc (.cells #[.bool true, .bool false, .bool true, .bool false, .int .u8 1, .string xs, .slice none 0 0, .map none, .slice none 0 0] 34)).cell? ⟨W3.heap.size, 4, none⟩ = some (.int .u8 1) := cell_heap Q3.out 4 _ rfl; have u5 : (W5.alloc (.cells #[.bool true, .bool false, .bool true, .bool false, .int .u8 1, .string xs, .slice none 0 0, .map none, .slice none 0 0] 34)).cell? ⟨W3.heap.size, 5, none⟩ = some (.string xs) := cell_heap Q3.out 5 _ rfl; have u6 : (W5.alloc (.cells #[.bool true, .bool false, .bool true, .bool false, .int .u8 1, .string xs, .slice none 0 0, .map none, .slice none 0 0] 34)).cell? ⟨W3.heap.size, 6, none⟩ = some (.slice none 0 0) := cell_heap Q3.out 6 _ rfl; have u7 : (W5.alloc (.cells #[.bool true, .bool false, .bool true, .bool false, .int .u8 1, .string xs, .slice none 0 0, .map none, .slice none 0 0] 34)).cell? ⟨W3.heap.size, 7, none⟩ = some (.map none) := cell_heap Q3.out 7 _ rfl; have u8 : (W5.alloc (.cells #[.bool true, .bool false, .bool true, .bool false, .int .u8 1, .string xs, .slice none 0 0, .map none, .slice none 0 0] 34)).cell? ⟨W3.heap.size, 8, none⟩ = some (.slice none 0 0) := cell_heap Q3.out 8 _ rfl; have v0 : (W5.alloc (.cells #[.bool true, .bool false, .bool true, .bool false, .int .u8 1, .string xs, .slice none 0 0, .map none, .slice none 0 0] 34)).cell? ⟨W5.heap.size, 0, none⟩ = some (.bool true) := cell_heap Q5.out 0 _ rfl; have v1 : (W5.alloc (.cells #[.bool true, .bool false, .bool true, .bool false, .int .u8 1, .string xs, .slice none 0 0, .map none, .slice none 0 0] 34)).cell? ⟨W5.heap.size, 1, none⟩ = some (.bool false) := cell_heap Q5.out 1 _ rfl; have v2 : (W5.alloc (.cells #[.bool true, .bool false, .bool true, .bool false, .int .u8 1, .string xs, .slice none 0 0, .map none, .slice none 0 0] 34)).cell? ⟨W5.heap.size, 2, none⟩ = some (.bool true) := cell_heap Q5.out 2 _ rfl; have v3 : (W5.alloc (.cells #[.bool true, .bool false, .bool true, .bool false, .int .u8 1, .string xs, .slice none 0 0, .map none, .slice none 0 0] 34)).cell? ⟨W5.heap.size, 3, none⟩ = some (.bool false) := cell_heap Q5.out 3 _ rfl; have v4 : (W5.alloc (.cells #[.bool true, .bool false, .bool true, .bool false, .int .u8 1, .string xs, .slice none 0 0, .map none, .slice none 0 0] 34)).cell? ⟨W5.heap.size, 4, none⟩ = some (.int .u8 1) := cell_heap Q5.out 4 _ rfl; have v5 : (W5.alloc (.cells #[.bool true, .bool false, .bool true, .bool false, .int .u8 1, .string xs, .slice none 0 0, .map none, .slice none 0 0] 34)).cell? ⟨W5.heap.size, 5, none⟩ = some (.string xs) := cell_heap Q5.out 5 _ rfl; have v6 : (W5.alloc (.cells #[.bool true, .bool false, .bool true, .bool false, .int .u8 1, .string xs, .slice none 0 0, .map none, .slice none 0 0] 34)).cell? ⟨W5.heap.size, 6, none⟩ = some (.slice none 0 0) := cell_heap Q5.out 6 _ rfl; have v7 : (W5.alloc (.cells #[.bool true, .bool false, .bool true, .bool false, .int .u8 1, .string xs, .slice none 0 0, .map none, .slice none 0 0] 34)).cell? ⟨W5.heap.size, 7, none⟩ = some (.map none) := cell_heap Q5.out 7 _ rfl; have v8 : (W5.alloc (.cells #[.bool true, .bool false, .bool true, .bool false, .int .u8 1, .string xs, .slice none 0 0, .map none, .slice none 0 0] 34)).cell? ⟨W5.heap.size, 8, none⟩ = some (.slice none 0 0) := cell_heap Q5.out 8 _ rfl) | (go_at_call 23; refine (S23.out _).mono ?_; rintro e W7 ⟨rfl, hb7⟩; have B7 := Lib.hid (B6.out.trans (hb7.mono B6.out.size)); clear hb7 S23))
        go_ret
        exact ⟨rfl, HB1.out.trans (B7.out.mono hw1)⟩
end Go.Proofs.YthihppocokkoiaaDoor
