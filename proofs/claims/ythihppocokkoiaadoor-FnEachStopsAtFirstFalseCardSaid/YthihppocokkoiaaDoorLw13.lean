/-
  The walk of FnEachStopsAtFirstFalse (written by gen13.py). Conditions: those in each theorem; the three tables.
-/
import Derived.Test.YthihppocokkoiaaDoorLw14
import Derived.Test.YthihppocokkoiaaDoorLeT
namespace Go.Proofs.YthihppocokkoiaaDoor
set_option linter.unusedVariables false
open Go.Shelf Go.RowKit Go.Lib Go.Sort

/-! ## what the list is, and that it is one -/
theorem dd_any (up : List UInt8 → List UInt8) (S : List (List UInt8)) : ∀ (M acc : List (List UInt8)) (last : List UInt8), (∀ y ∈ acc, y ∈ S ∧ Envp.valid y = true) → (∀ y ∈ M, y ∈ S) →
    (∀ y ∈ (M.foldl (Envp.ddStep up) (acc, last)).1, y ∈ S ∧ Envp.valid y = true) ∧ (M.foldl (Envp.ddStep up) (acc, last)).1.length ≤ acc.length + M.length
  | [], acc, last, h, _ => ⟨h, Nat.le_refl _⟩
  | x :: M, acc, last, h, hM => by
    rw [List.foldl_cons]
    have hx := hM x (by simp)
    unfold Envp.ddStep
    simp only
    by_cases hv : Envp.valid x = true
    · rw [if_pos hv]
      split
      · have := dd_any up S M (acc.dropLast ++ [x]) last (fun y hy => by
          rw [List.mem_append, List.mem_singleton] at hy
          rcases hy with hy | rfl
          · exact h y ((List.dropLast_sublist acc).subset hy)
          · exact ⟨hx, hv⟩) (fun y hy => hM y (by simp [hy]))
        refine ⟨this.1, Nat.le_trans this.2 ?_⟩
        simp; omega
      · have := dd_any up S M (acc ++ [x]) (Envp.nameOf x) (fun y hy => by
          rw [List.mem_append, List.mem_singleton] at hy
          rcases hy with hy | rfl
          · exact h y hy
          · exact ⟨hx, hv⟩) (fun y hy => hM y (by simp [hy]))
        refine ⟨this.1, Nat.le_trans this.2 ?_⟩
        simp; omega
    · rw [if_neg hv]
      have := dd_any up S M acc last h (fun y hy => hM y (by simp [hy]))
      refine ⟨this.1, Nat.le_trans this.2 ?_⟩
      simp
theorem SortedU.mem {L M : List (List UInt8)} (h : SortedU L M) (y : List UInt8) (hy : y ∈ M) : y ∈ L := by
  have : y ∈ M.filter (fun x => keyU x == keyU y) := by rw [List.mem_filter]; exact ⟨hy, by simp⟩
  rw [h.filt, List.mem_filter] at this
  exact this.1
theorem SortedU.length {L M : List (List UInt8)} (h : SortedU L M) : M.length = L.length := by
  have hp : M.Perm L := by
    rw [List.perm_iff_count]
    intro y
    have e1 := List.count_filter (l := M) (p := fun x => keyU x == keyU y) (a := y) (by simp)
    have e2 := List.count_filter (l := L) (p := fun x => keyU x == keyU y) (a := y) (by simp)
    rw [← e1, ← e2, h.filt]
  exact hp.length_eq
theorem sorted_one : ∀ (A B : List (List UInt8)), A.Pairwise (fun x y => ¬ Envp.blt (keyU y) (keyU x)) → B.Pairwise (fun x y => ¬ Envp.blt (keyU y) (keyU x)) → (∀ k, A.filter (fun x => keyU x == k) = B.filter (fun x => keyU x == k)) → A = B
  | [], B, _, _, h => by
    cases B with
    | nil => rfl
    | cons y B => have := h (keyU y); rw [List.filter_cons_of_pos (by simp)] at this; cases this
  | x :: A, [], _, _, h => by have := h (keyU x); rw [List.filter_cons_of_pos (by simp)] at this; cases this
  | x :: A, y :: B, hA, hB, h => by
    rw [List.pairwise_cons] at hA hB
    have hx : x ∈ y :: B := by
      have : x ∈ (x :: A).filter (fun z => keyU z == keyU x) := by rw [List.mem_filter]; exact ⟨by simp, by simp⟩
      rw [h, List.mem_filter] at this; exact this.1
    have hy : y ∈ x :: A := by
      have : y ∈ (y :: B).filter (fun z => keyU z == keyU y) := by rw [List.mem_filter]; exact ⟨by simp, by simp⟩
      rw [← h, List.mem_filter] at this; exact this.1
    have n1 : ¬ Envp.blt (keyU x) (keyU y) := by
      rw [List.mem_cons] at hx
      rcases hx with rfl | hx
      · exact Envp.blt_irr _
      · exact hB.1 x hx
    have n2 : ¬ Envp.blt (keyU y) (keyU x) := by
      rw [List.mem_cons] at hy
      rcases hy with rfl | hy
      · exact Envp.blt_irr _
      · exact hA.1 y hy
    have ek : keyU x = keyU y := by
      rcases Envp.blt_tri (keyU x) (keyU y) with h1 | h1 | h1
      · exact absurd h1 n1
      · exact h1
      · exact absurd h1 n2
    have h0 := h (keyU x)
    rw [List.filter_cons_of_pos (by simp), List.filter_cons_of_pos (by simp [ek])] at h0
    injection h0 with exy h0
    subst exy
    rw [sorted_one A B hA.2 hB.2 (fun k => by
      have hk := h k
      by_cases c : (keyU x == k) = true
      · rw [List.filter_cons, List.filter_cons, if_pos c, if_pos c] at hk
        injection hk
      · rw [List.filter_cons, List.filter_cons, if_neg c, if_neg c] at hk
        exact hk)]
theorem strict_one : ∀ (A B : List (List UInt8)), A.Pairwise (fun x y => Envp.blt (Envp.keyOf x) (Envp.keyOf y)) → B.Pairwise (fun x y => Envp.blt (Envp.keyOf x) (Envp.keyOf y)) → (∀ x, x ∈ A ↔ x ∈ B) → A = B
  | [], B, _, _, h => by
    cases B with
    | nil => rfl
    | cons y B => have := (h y).2 (by simp); cases this
  | x :: A, [], _, _, h => by have := (h x).1 (by simp); cases this
  | x :: A, y :: B, hA, hB, h => by
    rw [List.pairwise_cons] at hA hB
    have exy : x = y := by
      have hx := (h x).1 (by simp)
      have hy := (h y).2 (by simp)
      rw [List.mem_cons] at hx hy
      rcases hx with rfl | hx
      · rfl
      · rcases hy with rfl | hy
        · rfl
        · exact absurd (Envp.cb_trans _ _ _ (hB.1 x hx) (hA.1 y hy)) (Envp.blt_irr _)
    subst exy
    rw [strict_one A B hA.2 hB.2 (fun z => by
      constructor
      · intro hz
        have := (h z).1 (by simp [hz])
        rw [List.mem_cons] at this
        rcases this with rfl | this
        · exact absurd (hA.1 _ hz) (Envp.blt_irr _)
        · exact this
      · intro hz
        have := (h z).2 (by simp [hz])
        rw [List.mem_cons] at this
        rcases this with rfl | this
        · exact absurd (hB.1 _ hz) (Envp.blt_irr _)
        · exact this)]
theorem env_mem {L R : List (List UInt8)} (h : Envp.Env L R) (x : List UInt8) : x ∈ R ↔ Envp.valid x = true ∧ Envp.look L (Envp.nameOf x) = some x := by
  constructor
  · intro hx
    refine ⟨(h.valid x hx).2, ?_⟩
    obtain ⟨i, hi, rfl⟩ := List.mem_iff_getElem.1 hx
    exact env_look h hi
  · rintro ⟨hv, hl⟩
    have := h.ans (Envp.nameOf x)
    rw [hl] at this
    have hm : x ∈ R.filter (Envp.isName (Envp.nameOf x)) := by rw [this]; simp
    exact (List.mem_filter.1 hm).1

/-- what listEnviron_ makes of L -/
def EnvQ (ci : Bool) (L R : List (List UInt8)) : Prop := if ci = true then EnvListT L R else Envp.Env L R
theorem envQ_one {ci : Bool} {L R S : List (List UInt8)} (h : EnvQ ci L R) (k : EnvQ ci L S) : R = S := by
  cases ci with
  | true =>
    obtain ⟨M, hM, rfl⟩ : EnvListT L R := h
    obtain ⟨N, hN, rfl⟩ : EnvListT L S := k
    rw [sorted_one M N hM.inc hN.inc (fun k => (hM.filt k).trans (hN.filt k).symm)]
  | false =>
    have h' : Envp.Env L R := h
    have k' : Envp.Env L S := k
    exact strict_one R S h'.inc k'.inc (fun x => (env_mem h' x).trans (env_mem k' x).symm)
theorem envQ_good {ci : Bool} {L R : List (List UInt8)} (h : EnvQ ci L R) (hL : ∀ x ∈ L, x.length ≤ 1073741824) (hn : L.length ≤ 1073741824) : GoodR R := by
  cases ci with
  | true =>
    obtain ⟨M, hM, rfl⟩ : EnvListT L R := h
    have hd := dd_any Lib.toUpperD L M [] [] (fun y hy => by cases hy) hM.mem
    refine ⟨fun y hy => (hd.1 y hy).2, fun y hy => hL y (hd.1 y hy).1, ?_⟩
    have h2 := hd.2
    have h3 := hM.length
    simp only [List.length_nil, Nat.zero_add] at h2
    show (M.foldl (Envp.ddStep Lib.toUpperD) ([], [])).1.length ≤ _
    omega
  | false =>
    have h' : Envp.Env L R := h
    exact ⟨fun y hy => (h'.valid y hy).2, fun y hy => hL y (h'.valid y hy).1, by have := env_length h'; omega⟩
theorem env_both (ci : Bool) (v : Value) (P : List ByteArray) (w : World) (hTU : TabsU w) (hv : Texts w v P) (hP : ∀ s ∈ P, s.size ≤ 1073741824) (hn : P.length ≤ 1048576) :
    Calls Tryd.prog 66 #[.bool ci, v] w fun e w' => ∃ sv R, e = .returned (.iface 97 (.agg #[.bool ci, sv])) ∧ GoodR R ∧ EnvQ ci (P.map (·.data.toList)) R ∧ Below w.heap.size w w' ∧ RowAt w' w.heap.size sv R := by
  have hL : ∀ x ∈ P.map (·.data.toList), x.length ≤ 1073741824 := fun x hx => by
    obtain ⟨s, hs, rfl⟩ := List.mem_map.1 hx
    rw [Array.length_toList]; exact hP s hs
  have hl : (P.map (·.data.toList)).length ≤ 1073741824 := by rw [List.length_map]; omega
  cases ci with
  | true =>
    refine (env_anyT v P w hTU hv hP hn).mono ?_
    rintro e w' ⟨sv, R, he, hE, hB, hR⟩
    exact ⟨sv, R, he, envQ_good (ci := true) hE hL hl, hE, hB, hR⟩
  | false =>
    refine (env_any v P w hv hP hn).mono ?_
    rintro e w' ⟨sv, R, he, hE, hB, hR⟩
    exact ⟨sv, R, he, envQ_good (ci := false) hE hL hl, hE, hB, hR⟩

set_option maxHeartbeats 1000000 in
theorem bytes62 (a : Option Addr) (c : Nat) (P : List ByteArray) (ci : Bool) (q : Int) (w : World) (hc : P ≠ [] → ∃ b off, a = some ⟨b, off, none⟩ ∧ ∀ j, j < P.length → w.cell? ⟨b, off + j, none⟩ = some (.string (P.getD j ByteArray.empty))) :
    Calls Tryd.prog 62 #[.slice a P.length c, .bool ci, .int .i64 q] w fun e w' => GuardSay (Small P) e ∧ w = w' := by
  go_enter Tryd.func62, Tryd.ntmps62
  by_cases hn : (1048576 : Int) < (P.length : Int)
  · go_wp2
    go_ret
    exact ⟨gs_no rfl, rfl⟩
  · go_wp2
    go_loop [7, 8] (fun v7 v8 => ∃ t k : Nat, v7 = .int .i64 t ∧ v8 = .int .i64 k ∧ (t : Int) ≤ 1048576 ∧ (k : Int) ≤ (P.length : Int) ∧ Hid (∀ j, j < k → (P.getD j ByteArray.empty).size ≤ 1048576)) (fun v7 v8 => P.length - (intOf v8).toNat)
    case atStart => exact ⟨P.length, 0, rfl, rfl, by omega, by omega, Lib.hid fun j hj => by omega⟩
    case round =>
      obtain ⟨t, k, rfl, rfl, ht, hk, HS⟩ := hrel
      by_cases hlt : (k : Int) < (P.length : Int)
      · obtain ⟨b, off, rfl, hcell⟩ := hc (by rintro rfl; simp at hlt; omega)
        have hx := hcell k (by omega)
        obtain ⟨s, hs⟩ : ∃ s, s = P.getD k ByteArray.empty := ⟨_, rfl⟩
        rw [← hs] at hx
        have HS2 : Hid (s.size ≤ 1048576 → ∀ j, j < k + 1 → (P.getD j ByteArray.empty).size ≤ 1048576) := Lib.hid fun h j hj => by
          by_cases e : j = k
          · subst e; rw [← hs]; exact h
          · exact HS.out j (by omega)
        clear hc hcell hs
        by_cases c1 : (1048576 : Int) < (s.size : Int)
        · go_wp2
          go_ret
          exact ⟨gs_no rfl, rfl⟩
        · by_cases c2 : (1048576 : Int) < (t : Int) + (s.size : Int)
          · go_wp2
            go_ret
            exact ⟨gs_no rfl, rfl⟩
          · go_wp2
            go_round
            case rel => exact ⟨t + s.size, k + 1, by go_num, by go_num, by omega, by omega, Lib.hid (HS2.out (by omega))⟩
            case measure => simp [intOf]; omega
      · have HF : Hid (Small P) := Lib.hid ⟨by omega, fun j hj => HS.out j (by omega)⟩
        clear hc
        go_wp2
        go_ret
        exact ⟨gs_yes rfl HF.out, rfl⟩

theorem below_grow13 {B : Nat} {w w' : World} (h : Below B w w') (n : Nat) (os : Array Obj) (hB : B ≤ w'.heap.size) : Below B w (grow (w'.drewN n) os) :=
  h.trans ((below_regrown w' (w'.drawn + n) os).mono hB)
theorem calls_zero (n : Nat) : calls 0 n = n := by unfold calls; rw [if_pos (by omega)]
set_option maxRecDepth 20000 in
set_option maxHeartbeats 8000000 in
theorem law13 (a : Option Addr) (c : Nat) (P : List ByteArray) (ci : Bool) (q : Int) (w : World) (hTU : TabsU w) (hv : Texts w (.slice a P.length c) P) (hq : (Lit.int .i64 q).wf = true) :
    Calls Tryd.prog 13 #[.slice a P.length c, .bool ci, .int .i64 q] w fun e w' => e = .returned (.bool true) ∧ Below w.heap.size w w' := by
  have B62 := Lib.hid (bytes62 a c P ci q w (texts_cells14 hv))
  have HV := Lib.hid hv
  have HTU := Lib.hid hTU
  clear hv hTU hq
  go_enter Tryd.func13, Tryd.ntmps13
  go_wp2_with (go_at_call 62; refine B62.out.mono ?_; rintro e w' ⟨⟨b, rfl, hb⟩, rfl⟩; have HB := Lib.hid hb; clear hb B62)
  · go_ret
    exact ⟨rfl, Below.refl _ _⟩
  have hb1 : (!b) = false := by assumption
  have HS := Lib.hid (HB.out (by simpa using hb1))
  have hp : (P.length : Int) ≤ 1048576 := by have := HS.out.1; omega
  clear HB hb1
  have S56 := Lib.hid (size56 a c P 0 w (by omega) HS.out (texts_cells14 HV.out))
  by_cases hq1 : q < 1
  · go_wp2_with (go_at_call 56; refine S56.out.mono ?_; rintro e w' ⟨⟨b2, rfl, _⟩, rfl⟩; clear S56)
    all_goals (go_ret; exact ⟨rfl, Below.refl _ _⟩)
  go_wp2_with (go_at_call 56; refine S56.out.mono ?_; rintro e w' ⟨⟨b2, rfl, _⟩, rfl⟩; clear S56)
  · go_ret
    exact ⟨rfl, Below.refl _ _⟩
  refine (clone58 _ P w HV.out HS.out.1).mono ?_
  rintro e w1 ⟨⟨v', rfl, hT⟩, hB1⟩
  obtain ⟨a3, c3, hv', hc'⟩ := hT
  subst hv'
  have HT : Hid (Texts w1 (.slice a3 P.length c3) P) := Lib.hid ⟨a3, c3, rfl, hc'⟩
  have HB1 := Lib.hid hB1
  have hw1 : w.heap.size ≤ w1.heap.size := hB1.size
  have TU1 := Lib.hid (HTU.out.below hB1)
  clear hc' hB1 HV HTU
  obtain ⟨L, hL⟩ : ∃ L, L = P.map (·.data.toList) := ⟨_, rfl⟩
  have DE : Hid (∀ (st : Int) (W : World), Below w1.heap.size w1 W → Calls Tryd.prog 63 #[.bool ci, .slice a3 P.length c3, .int .i64 st] W fun e w' => ∃ R, EnvQ ci L R ∧ GoodR R ∧ EachDone W R st e w') := Lib.hid fun st W hW => door63 ci (.slice a3 P.length c3) st (EnvQ ci L) W (Lib.hid fun W' hW' => (env_both ci _ P W' ((TU1.out.below hW).below hW') (texts_below (texts_below HT.out hW) hW') (fun s hs => by have := small_mem HS.out s hs; omega) HS.out.1).mono (by
    rintro e w' ⟨sv, R, he, hG, hE, hB, hRow⟩
    rw [← hL] at hE
    exact ⟨sv, R, he, hG, hE, hB, hRow⟩))
  clear hL TU1 HT
  go_wp2_with (fail)
  refine (DE.out 0 w1 (Below.refl _ _)).mono ?_
  rintro e w2 ⟨R, hE, hG, hD⟩
  obtain ⟨an, cn, av, cv, rfl, hB2, na, va⟩ := each_rows (calls_zero R.length) hD
  have HB2 := Lib.hid hB2
  have NA := Lib.hid na
  have VA := Lib.hid va
  have HE := Lib.hid hE
  clear hB2 na va hD hE
  go_wp2_with (fail)
  refine (DE.out q w2 HB2.out).mono ?_
  rintro e w3 ⟨R2, hE2, _, hD2⟩
  obtain rfl : R = R2 := envQ_one HE.out hE2
  clear hE2 HE DE
  have hR : (R.length : Int) ≤ 1073741824 := by have := hG.2.2; omega
  have HZ : Hid (∀ y ∈ R, (nameB y).size ≤ 1073741824) := Lib.hid fun y hy => by
    have h1 := hG.2.1 y hy
    have h2 : (nameB y).size = (Envp.nameOf y).length := by simp [nameB, ByteArray.size]
    have h3 : (Envp.nameOf y).length ≤ y.length := by unfold Envp.nameOf; rw [List.length_take]; omega
    omega
  clear hG
  obtain ⟨n, hn⟩ : ∃ n, calls q R.length = n := ⟨_, rfl⟩
  obtain ⟨an2, cn2, av2, cv2, rfl, hB3, na2, va2⟩ := each_rows hn hD2
  have HB3 := Lib.hid hB3
  have NA2 := Lib.hid na2
  have VA2 := Lib.hid va2
  have hnR : (n : Int) ≤ (R.length : Int) := by have := calls_le q R.length; omega
  have hn2 : (q < (R.length : Int) ∧ q = (n : Int)) ∨ (¬ q < (R.length : Int) ∧ n = R.length) := by
    unfold calls at hn
    rw [if_neg (by omega)] at hn
    by_cases h : q < (R.length : Int)
    · rw [Nat.min_eq_left (by omega)] at hn
      exact .inl ⟨h, by omega⟩
    · rw [Nat.min_eq_right (by omega)] at hn
      exact .inr ⟨h, by omega⟩
  clear hB3 na2 va2 hD2 hn
  rcases hn2 with ⟨hqR, rfl⟩ | ⟨hqR, rfl⟩
  · go_wp2_with (fail)
    clear hqR
    go_loopg [12] (n) (fun g v12 wr => ∃ k : Nat, v12 = .int .i64 k ∧ (k : Int) ≤ (n : Int) ∧ n - k ≤ g ∧ Hid (Below w3.heap.size w3 wr))
    case atStart => exact ⟨0, rfl, by omega, by omega, Lib.hid (Below.refl _ _)⟩
    case round =>
      obtain ⟨k, rfl, hk, hg, B5⟩ := hrel
      by_cases hlt : (k : Int) < (n : Int)
      · have hkn : k < R.length := by omega
        have hkn' : (k : Int) < (R.length : Int) := by omega
        obtain ⟨g1, rfl, hg1, hc1⟩ := NA.out k hkn hkn
        obtain ⟨g2, rfl, hg2, hc2⟩ := NA2.out k hkn (by omega)
        obtain ⟨g3, rfl, hg3, hc3⟩ := VA.out k hkn hkn
        obtain ⟨g4, rfl, hg4, hc4⟩ := VA2.out k hkn (by omega)
        have s3 := HB3.out.size
        have x1 : wr.cell? ⟨g1, k, none⟩ = some (.string (nameB R[k])) := ((World.cell?_of_block (w := w3) (B5.out.block g1 (by omega))).trans (World.cell?_of_block (w := w2) (HB3.out.block g1 hg1))).trans hc1
        have x2 : wr.cell? ⟨g2, k, none⟩ = some (.string (nameB R[k])) := (World.cell?_of_block (w := w3) (B5.out.block g2 hg2)).trans hc2
        have X3 : Hid (w3.cell? ⟨g3, k * 9 + 5, none⟩ = some (.string (valB R[k]))) := Lib.hid ((World.cell?_of_block (w := w2) (HB3.out.block g3 hg3)).trans (hc3 5 (by omega)))
        have X4 : Hid (∀ m, m < 9 → w3.cell? ⟨g4, k * 9 + m, none⟩ = (strCs (valB R[k]))[m]?) := Lib.hid hc4
        have hz := HZ.out _ (List.getElem_mem hkn)
        have HG := Lib.hid (And.intro (show g3 < w3.heap.size by omega) hg4)
        clear hc1 hc2 hc3 hc4 hg1 hg2 hg3 hg4 s3
        generalize nameB R[k] = nm at x1 x2 hz
        generalize valB R[k] = vl at X3 X4
        have qy : (nm.toList == nm.toList) = true := by simp
        go_wp2
        go_region
        clear x1 x2
        have B4 : Hid (Below w3.heap.size w3 wr.drew) := Lib.hid B5.out.drew
        generalize wr.drew = W4 at B4 ⊢
        have z4 : w3.heap.size ≤ W4.heap.size := B4.out.size
        have e5 : ∀ n os, (grow (W4.drewN n) os).cell? ⟨g3, k * 9 + 5, none⟩ = some (.string vl) := fun n os => cell_grown (by have := HG.out.1; show g3 < _; omega) ((World.cell?_of_block (w := w3) (B4.out.block g3 HG.out.1)).trans X3.out) n os
        have r0 : ∀ n os, (grow (W4.drewN n) os).cell? ⟨g4, k * 9, none⟩ = some (.bool true) := fun n os => cell_grown (by have := HG.out.2; show g4 < _; omega) ((World.cell?_of_block (w := w3) (B4.out.block g4 HG.out.2)).trans (X4.out 0 (by omega))) n os
        have r1 : ∀ n os, (grow (W4.drewN n) os).cell? ⟨g4, k * 9 + 1, none⟩ = some (.bool false) := fun n os => cell_grown (by have := HG.out.2; show g4 < _; omega) ((World.cell?_of_block (w := w3) (B4.out.block g4 HG.out.2)).trans (X4.out 1 (by omega))) n os
        have r2 : ∀ n os, (grow (W4.drewN n) os).cell? ⟨g4, k * 9 + 2, none⟩ = some (.bool true) := fun n os => cell_grown (by have := HG.out.2; show g4 < _; omega) ((World.cell?_of_block (w := w3) (B4.out.block g4 HG.out.2)).trans (X4.out 2 (by omega))) n os
        have r3 : ∀ n os, (grow (W4.drewN n) os).cell? ⟨g4, k * 9 + 3, none⟩ = some (.bool false) := fun n os => cell_grown (by have := HG.out.2; show g4 < _; omega) ((World.cell?_of_block (w := w3) (B4.out.block g4 HG.out.2)).trans (X4.out 3 (by omega))) n os
        have r4 : ∀ n os, (grow (W4.drewN n) os).cell? ⟨g4, k * 9 + 4, none⟩ = some (.int .u8 1) := fun n os => cell_grown (by have := HG.out.2; show g4 < _; omega) ((World.cell?_of_block (w := w3) (B4.out.block g4 HG.out.2)).trans (X4.out 4 (by omega))) n os
        have r5 : ∀ n os, (grow (W4.drewN n) os).cell? ⟨g4, k * 9 + 5, none⟩ = some (.string vl) := fun n os => cell_grown (by have := HG.out.2; show g4 < _; omega) ((World.cell?_of_block (w := w3) (B4.out.block g4 HG.out.2)).trans (X4.out 5 (by omega))) n os
        have r6 : ∀ n os, (grow (W4.drewN n) os).cell? ⟨g4, k * 9 + 6, none⟩ = some (.slice none 0 0) := fun n os => cell_grown (by have := HG.out.2; show g4 < _; omega) ((World.cell?_of_block (w := w3) (B4.out.block g4 HG.out.2)).trans (X4.out 6 (by omega))) n os
        have r7 : ∀ n os, (grow (W4.drewN n) os).cell? ⟨g4, k * 9 + 7, none⟩ = some (.map none) := fun n os => cell_grown (by have := HG.out.2; show g4 < _; omega) ((World.cell?_of_block (w := w3) (B4.out.block g4 HG.out.2)).trans (X4.out 7 (by omega))) n os
        have r8 : ∀ n os, (grow (W4.drewN n) os).cell? ⟨g4, k * 9 + 8, none⟩ = some (.slice none 0 0) := fun n os => cell_grown (by have := HG.out.2; show g4 < _; omega) ((World.cell?_of_block (w := w3) (B4.out.block g4 HG.out.2)).trans (X4.out 8 (by omega))) n os
        have S61 : Hid (∀ W : World, Calls Tryd.prog 61 #[.agg #[.bool true, .bool false, .bool true, .bool false, .int .u8 1, .string vl, .slice none 0 0, .map none, .slice none 0 0], .string vl] W fun e w' => e = .returned (.bool true) ∧ ∃ q os', w' = grow (W.drewN q) os') := Lib.hid fun W => grown_calls (str61 vl W)
        have mixed : Tryd.prog.follows .mixedOrders = true := by kernel_rfl
        clear X3 X4 z4
        go_wp2
        go_quiet_grown (first | (go_at_call 61; refine Calls.grown_of (S61.out _)))
        go_wp2
        go_roundg (n - (k + 1))
        case measure => omega
        case rel => exact ⟨k + 1, by go_num, by omega, Nat.le_refl _, Lib.hid (below_grow13 B4.out _ _ B4.out.size)⟩
      · go_wp2
        go_ret
        exact ⟨rfl, HB1.out.trans (((HB2.out.trans (HB3.out.mono HB2.out.size)).trans (B5.out.mono (Nat.le_trans HB2.out.size HB3.out.size))).mono hw1)⟩
  · go_wp2_with (fail)
    clear hqR
    go_loopg [12] (R.length) (fun g v12 wr => ∃ k : Nat, v12 = .int .i64 k ∧ (k : Int) ≤ (R.length : Int) ∧ R.length - k ≤ g ∧ Hid (Below w3.heap.size w3 wr))
    case atStart => exact ⟨0, rfl, by omega, by omega, Lib.hid (Below.refl _ _)⟩
    case round =>
      obtain ⟨k, rfl, hk, hg, B5⟩ := hrel
      by_cases hlt : (k : Int) < (R.length : Int)
      · have hkn : k < R.length := by omega
        have hkn' : (k : Int) < (R.length : Int) := by omega
        obtain ⟨g1, rfl, hg1, hc1⟩ := NA.out k hkn hkn
        obtain ⟨g2, rfl, hg2, hc2⟩ := NA2.out k hkn (by omega)
        obtain ⟨g3, rfl, hg3, hc3⟩ := VA.out k hkn hkn
        obtain ⟨g4, rfl, hg4, hc4⟩ := VA2.out k hkn (by omega)
        have s3 := HB3.out.size
        have x1 : wr.cell? ⟨g1, k, none⟩ = some (.string (nameB R[k])) := ((World.cell?_of_block (w := w3) (B5.out.block g1 (by omega))).trans (World.cell?_of_block (w := w2) (HB3.out.block g1 hg1))).trans hc1
        have x2 : wr.cell? ⟨g2, k, none⟩ = some (.string (nameB R[k])) := (World.cell?_of_block (w := w3) (B5.out.block g2 hg2)).trans hc2
        have X3 : Hid (w3.cell? ⟨g3, k * 9 + 5, none⟩ = some (.string (valB R[k]))) := Lib.hid ((World.cell?_of_block (w := w2) (HB3.out.block g3 hg3)).trans (hc3 5 (by omega)))
        have X4 : Hid (∀ m, m < 9 → w3.cell? ⟨g4, k * 9 + m, none⟩ = (strCs (valB R[k]))[m]?) := Lib.hid hc4
        have hz := HZ.out _ (List.getElem_mem hkn)
        have HG := Lib.hid (And.intro (show g3 < w3.heap.size by omega) hg4)
        clear hc1 hc2 hc3 hc4 hg1 hg2 hg3 hg4 s3
        generalize nameB R[k] = nm at x1 x2 hz
        generalize valB R[k] = vl at X3 X4
        have qy : (nm.toList == nm.toList) = true := by simp
        go_wp2
        go_region
        clear x1 x2
        have B4 : Hid (Below w3.heap.size w3 wr.drew) := Lib.hid B5.out.drew
        generalize wr.drew = W4 at B4 ⊢
        have z4 : w3.heap.size ≤ W4.heap.size := B4.out.size
        have e5 : ∀ n os, (grow (W4.drewN n) os).cell? ⟨g3, k * 9 + 5, none⟩ = some (.string vl) := fun n os => cell_grown (by have := HG.out.1; show g3 < _; omega) ((World.cell?_of_block (w := w3) (B4.out.block g3 HG.out.1)).trans X3.out) n os
        have r0 : ∀ n os, (grow (W4.drewN n) os).cell? ⟨g4, k * 9, none⟩ = some (.bool true) := fun n os => cell_grown (by have := HG.out.2; show g4 < _; omega) ((World.cell?_of_block (w := w3) (B4.out.block g4 HG.out.2)).trans (X4.out 0 (by omega))) n os
        have r1 : ∀ n os, (grow (W4.drewN n) os).cell? ⟨g4, k * 9 + 1, none⟩ = some (.bool false) := fun n os => cell_grown (by have := HG.out.2; show g4 < _; omega) ((World.cell?_of_block (w := w3) (B4.out.block g4 HG.out.2)).trans (X4.out 1 (by omega))) n os
        have r2 : ∀ n os, (grow (W4.drewN n) os).cell? ⟨g4, k * 9 + 2, none⟩ = some (.bool true) := fun n os => cell_grown (by have := HG.out.2; show g4 < _; omega) ((World.cell?_of_block (w := w3) (B4.out.block g4 HG.out.2)).trans (X4.out 2 (by omega))) n os
        have r3 : ∀ n os, (grow (W4.drewN n) os).cell? ⟨g4, k * 9 + 3, none⟩ = some (.bool false) := fun n os => cell_grown (by have := HG.out.2; show g4 < _; omega) ((World.cell?_of_block (w := w3) (B4.out.block g4 HG.out.2)).trans (X4.out 3 (by omega))) n os
        have r4 : ∀ n os, (grow (W4.drewN n) os).cell? ⟨g4, k * 9 + 4, none⟩ = some (.int .u8 1) := fun n os => cell_grown (by have := HG.out.2; show g4 < _; omega) ((World.cell?_of_block (w := w3) (B4.out.block g4 HG.out.2)).trans (X4.out 4 (by omega))) n os
        have r5 : ∀ n os, (grow (W4.drewN n) os).cell? ⟨g4, k * 9 + 5, none⟩ = some (.string vl) := fun n os => cell_grown (by have := HG.out.2; show g4 < _; omega) ((World.cell?_of_block (w := w3) (B4.out.block g4 HG.out.2)).trans (X4.out 5 (by omega))) n os
        have r6 : ∀ n os, (grow (W4.drewN n) os).cell? ⟨g4, k * 9 + 6, none⟩ = some (.slice none 0 0) := fun n os => cell_grown (by have := HG.out.2; show g4 < _; omega) ((World.cell?_of_block (w := w3) (B4.out.block g4 HG.out.2)).trans (X4.out 6 (by omega))) n os
        have r7 : ∀ n os, (grow (W4.drewN n) os).cell? ⟨g4, k * 9 + 7, none⟩ = some (.map none) := fun n os => cell_grown (by have := HG.out.2; show g4 < _; omega) ((World.cell?_of_block (w := w3) (B4.out.block g4 HG.out.2)).trans (X4.out 7 (by omega))) n os
        have r8 : ∀ n os, (grow (W4.drewN n) os).cell? ⟨g4, k * 9 + 8, none⟩ = some (.slice none 0 0) := fun n os => cell_grown (by have := HG.out.2; show g4 < _; omega) ((World.cell?_of_block (w := w3) (B4.out.block g4 HG.out.2)).trans (X4.out 8 (by omega))) n os
        have S61 : Hid (∀ W : World, Calls Tryd.prog 61 #[.agg #[.bool true, .bool false, .bool true, .bool false, .int .u8 1, .string vl, .slice none 0 0, .map none, .slice none 0 0], .string vl] W fun e w' => e = .returned (.bool true) ∧ ∃ q os', w' = grow (W.drewN q) os') := Lib.hid fun W => grown_calls (str61 vl W)
        have mixed : Tryd.prog.follows .mixedOrders = true := by kernel_rfl
        clear X3 X4 z4
        go_wp2
        go_quiet_grown (first | (go_at_call 61; refine Calls.grown_of (S61.out _)))
        go_wp2
        go_roundg (R.length - (k + 1))
        case measure => omega
        case rel => exact ⟨k + 1, by go_num, by omega, Nat.le_refl _, Lib.hid (below_grow13 B4.out _ _ B4.out.size)⟩
      · go_wp2
        go_ret
        exact ⟨rfl, HB1.out.trans (((HB2.out.trans (HB3.out.mono HB2.out.size)).trans (B5.out.mono (Nat.le_trans HB2.out.size HB3.out.size))).mono hw1)⟩
end Go.Proofs.YthihppocokkoiaaDoor
