/-
  The walk of FnGetReturnsLastPairForName. Conditions: those in each theorem.
-/
import Derived.Test.YthihppocokkoiaaDoorLwD
namespace Go.Proofs.YthihppocokkoiaaDoor
set_option linter.unusedVariables false
open Go.Shelf Go.RowKit Go.Lib Go.Sort

theorem eqAt_neg {q : List UInt8} (h : Envp.eqAt q < 0) : 61 ∉ q := by
  have h1 : -1 ≤ Envp.eqAt q := Lib.indexByte_ge q 61
  exact Envp.eqAt_none (by omega)

theorem texts_cells {w : World} {a : Option Addr} {c : Nat} {P : List ByteArray} (hv : Texts w (.slice a P.length c) P) : P ≠ [] → ∃ b off, a = some ⟨b, off, none⟩ ∧ ∀ j, j < P.length → w.cell? ⟨b, off + j, none⟩ = some (.string (P.getD j ByteArray.empty)) := fun hne => by
  obtain ⟨a', c', h, hc⟩ := hv
  cases h
  obtain ⟨b, off, h1, _, h2⟩ := hc hne
  exact ⟨b, off, h1, h2⟩

/-- what the law's loop has found -/
def Fnd (q : ByteArray) (b : Bool) (s : ByteArray) (o : Option (List UInt8)) : Prop :=
  match o with
  | none => b = false
  | some x => b = true ∧ s = (⟨x.toArray⟩ : ByteArray).extract (q.size + 1) (⟨x.toArray⟩ : ByteArray).size

theorem look_step (P : List ByteArray) (q : List UInt8) (k : Nat) (hk : k < P.length) (x : List UInt8) (hx : x = (P.getD k ByteArray.empty).data.toList) :
    Envp.look ((P.take (k + 1)).map (·.data.toList)) q = if Envp.isName q x then some x else Envp.look ((P.take k).map (·.data.toList)) q := by
  have ht : P.take (k + 1) = P.take k ++ [P[k]] := by rw [List.take_succ_eq_append_getElem hk]
  rw [ht, List.map_append, List.map_cons, List.map_nil, Envp.look_snoc]
  have : P[k].data.toList = x := by rw [hx]; simp [List.getD, List.getElem?_eq_getElem hk]
  rw [this]

theorem fnd_same {P : List ByteArray} {q : ByteArray} {k : Nat} {b : Bool} {s p : ByteArray} (hk : k < P.length) (hp : p = P.getD k ByteArray.empty) (hn : Envp.isName q.data.toList p.data.toList = false)
    (h : Fnd q b s (Envp.look ((P.take k).map (·.data.toList)) q.data.toList)) : Fnd q b s (Envp.look ((P.take (k + 1)).map (·.data.toList)) q.data.toList) := by
  rw [look_step P q.data.toList k hk p.data.toList (by rw [hp]), if_neg (by rw [hn]; decide)]; exact h
theorem fnd_new {P : List ByteArray} {q : ByteArray} {k : Nat} {p : ByteArray} (hk : k < P.length) (hp : p = P.getD k ByteArray.empty) (hn : Envp.isName q.data.toList p.data.toList = true) :
    Fnd q true (p.extract (q.size + 1) p.size) (Envp.look ((P.take (k + 1)).map (·.data.toList)) q.data.toList) := by
  rw [look_step P q.data.toList k hk p.data.toList (by rw [hp]), if_pos hn]
  exact ⟨rfl, rfl⟩

theorem name_yes {p q : ByteArray} (hq : q.toList.isEmpty = false) (h1 : Envp.eqAt p.data.toList = (q.size : Int)) (h2 : ((p.extract 0 q.size).toList == q.toList) = true) : Envp.isName q.data.toList p.data.toList = true ∧ q.size + 1 ≤ p.size := by
  have hl : p.data.toList.length = p.size := by simp
  obtain ⟨_, _, h3⟩ := Envp.split_of (i := q.size) h1
  refine ⟨?_, by omega⟩
  have hpos : 0 < q.size := by
    rcases Nat.eq_zero_or_pos q.size with h | h
    · exfalso
      rw [Lib.toList_data] at hq
      have : q.data.toList.length = 0 := by rw [Array.length_toList]; exact h
      rw [List.length_eq_zero_iff.1 this] at hq
      cases hq
    · exact h
  unfold Envp.isName Envp.valid Envp.nameOf
  rw [h1, Int.toNat_natCast]
  rw [Lib.toList_data, Lib.toList_data, extract_data, List.drop_zero] at h2
  simp only [Bool.and_eq_true, decide_eq_true_eq]
  exact ⟨by omega, h2⟩
theorem name_no1 {p q : ByteArray} (h1 : ¬ Envp.eqAt p.data.toList = (q.size : Int)) : Envp.isName q.data.toList p.data.toList = false := by
  cases c : Envp.isName q.data.toList p.data.toList with
  | false => rfl
  | true =>
    exfalso
    unfold Envp.isName at c
    simp only [Bool.and_eq_true, beq_iff_eq] at c
    obtain ⟨i, hi, h0⟩ := Envp.valid_at c.1
    have h2 := c.2
    unfold Envp.nameOf at h2
    obtain ⟨_, _, h3⟩ := Envp.split_of hi
    rw [hi, Int.toNat_natCast] at h2
    have : q.data.toList.length = q.size := by simp
    rw [← h2, List.length_take] at this
    omega
theorem name_no2 {p q : ByteArray} (h1 : Envp.eqAt p.data.toList = (q.size : Int)) (h2 : ((p.extract 0 q.size).toList == q.toList) = false) : Envp.isName q.data.toList p.data.toList = false := by
  unfold Envp.isName Envp.nameOf
  rw [h1, Int.toNat_natCast]
  rw [Lib.toList_data, Lib.toList_data, extract_data, List.drop_zero] at h2
  rw [Nat.sub_zero] at h2
  rw [h2, Bool.and_false]
theorem look_empty (L : List (List UInt8)) : Envp.look L [] = none := by
  unfold Envp.look
  rw [List.filter_eq_nil_iff.2]
  · rfl
  · intro x _ h
    unfold Envp.isName at h
    simp only [Bool.and_eq_true, beq_iff_eq] at h
    exact (Envp.key_valid h.1).2.2.1 h.2
set_option maxRecDepth 20000 in
set_option maxHeartbeats 1000000 in
theorem law12 (a : Option Addr) (c : Nat) (P : List ByteArray) (q : ByteArray) (w : World) (hv : Texts w (.slice a P.length c) P) :
    Calls Tryd.prog 12 #[.slice a P.length c, .string q] w fun e w' => e = .returned (.bool true) ∧ Below w.heap.size w w' := by
  have B55 := Lib.hid (bytes55 a c P q w (texts_cells hv))
  have HV := Lib.hid hv
  clear hv
  go_enter Tryd.func12, Tryd.ntmps12
  go_wp2_with (first | (go_at_call 55; go_must (refine B55.out.mono ?_); rintro e w' ⟨⟨b, rfl, hb⟩, rfl⟩; have HB := Lib.hid hb; clear hb B55))
  · go_ret; exact ⟨rfl, Below.refl _ _⟩
  · go_ret; exact ⟨rfl, Below.refl _ _⟩
  have hb1 : (!b) = false := by assumption
  have hS := HB.out (by simpa using hb1)
  have HS := Lib.hid hS.1
  have hq : q.size ≤ 1048576 := hS.2
  clear HB hb1 hS
  refine (size56 a c P q.size w hq HS.out (texts_cells HV.out)).mono ?_
  rintro e w' ⟨⟨b2, rfl, _⟩, rfl⟩
  go_wp2_with (first | (go_at_call 57; go_must (refine (eq57 q w (by omega)).mono ?_); rintro e w' ⟨rfl, rfl⟩))
  · go_ret; exact ⟨rfl, Below.refl _ _⟩
  · go_ret; exact ⟨rfl, Below.refl _ _⟩
  have hneg : Envp.eqAt q.data.toList < 0 := by assumption
  have H61 := Lib.hid (eqAt_neg hneg)
  clear hneg
  refine (clone58 _ P w HV.out HS.out.1).mono ?_
  rintro e w1 ⟨⟨v', rfl, hT⟩, hB1⟩
  have ⟨a', c', hv', _⟩ := hT
  subst hv'
  have HT := Lib.hid hT
  have HB1 := Lib.hid hB1
  have hn : (P.length : Int) ≤ 1048576 := by have := HS.out.1; omega
  clear hT hB1 HV
  have hw1 : w.heap.size ≤ w1.heap.size := HB1.out.size
  have G59 := Lib.hid (fun (W : World) (hB : Below w1.heap.size w1 W) => get59 _ P q W (texts_below HT.out hB) HS.out hq H61.out)
  have BW := Lib.hid (Below.refl w1.heap.size w1)
  cases hq0 : q.toList.isEmpty
  · have FN0 : Hid (Fnd q false ByteArray.empty (Envp.look ((P.take 0).map (·.data.toList)) q.data.toList)) := Lib.hid rfl
    go_wp2
    go_loopg [5, 6, 7] (P.length) (fun g v5 v6 v7 wr => ∃ (b : Bool) (s : ByteArray) (k : Nat), v5 = .bool b ∧ v6 = .string s ∧ v7 = .int .i64 k ∧ (k : Int) ≤ (P.length : Int) ∧ P.length - k ≤ g ∧ Hid (Fnd q b s (Envp.look ((P.take k).map (·.data.toList)) q.data.toList)) ∧ Hid (Below w1.heap.size w1 wr))
    case atStart => exact ⟨false, ByteArray.empty, 0, rfl, rfl, rfl, by omega, by omega, FN0, BW⟩
    case round =>
      clear BW FN0
      obtain ⟨bf, sf, k, rfl, rfl, rfl, hk, hg, FN, BW⟩ := hrel
      by_cases hlt : (k : Int) < (P.length : Int)
      · have hkn : k < P.length := by omega
        obtain ⟨bb, off, rfl, hcell⟩ := texts_cells (texts_below HT.out BW.out) (by rintro rfl; simp at hkn)
        have hx := hcell k hkn
        have hsz := HS.out.2 k hkn
        obtain ⟨p, hp⟩ : ∃ p, p = P.getD k ByteArray.empty := ⟨_, rfl⟩
        rw [← hp] at hx hsz
        clear hcell
        by_cases c1 : Envp.eqAt p.data.toList = (q.size : Int)
        · have EQ := Lib.hid (fun W => eq57 p W (by omega))
          rw [c1] at EQ
          cases c2 : ((p.extract 0 q.size).toList == q.toList) with
          | true =>
            obtain ⟨hnm, hle⟩ := name_yes hq0 c1 c2
            have FN2 := Lib.hid (fnd_new hkn hp hnm)
            have p0 : (0 : Int) ≤ (q.size : Int) := by omega
            have p1 : (q.size : Int) ≤ (p.size : Int) := by omega
            have p2 : (q.size : Int) + 1 ≤ (p.size : Int) := by omega
            have p3 : (0 : Int) ≤ (q.size : Int) + 1 := by omega
            have p4 : ((q.size : Int) + 1).toNat = q.size + 1 := by omega
            clear c1 hp hnm FN
            go_wp2_with (first | (go_at_call 57; go_must (refine (EQ.out _).mono ?_); rintro e w' ⟨rfl, rfl⟩))
            go_roundg (P.length - (k + 1))
            case measure => omega
            case rel => exact ⟨true, _, k + 1, rfl, rfl, by go_num, by omega, Nat.le_refl _, FN2, (by first | exact BW | exact Lib.hid BW.out.drew | exact Lib.hid (Lib.below_drewN' BW.out _))⟩
          | false =>
            have hnm := name_no2 c1 c2
            have FN2 := Lib.hid (fnd_same hkn hp hnm FN.out)
            have hle : q.size ≤ p.size := by
              have := (Envp.split_of (i := q.size) c1).2.2
              have hl : p.data.toList.length = p.size := by simp
              omega
            have p0 : (0 : Int) ≤ (q.size : Int) := by omega
            have p1 : (q.size : Int) ≤ (p.size : Int) := by omega
            clear c1 hp hnm FN
            go_wp2_with (first | (go_at_call 57; go_must (refine (EQ.out _).mono ?_); rintro e w' ⟨rfl, rfl⟩))
            go_roundg (P.length - (k + 1))
            case measure => omega
            case rel => exact ⟨bf, sf, k + 1, rfl, rfl, by go_num, by omega, Nat.le_refl _, FN2, (by first | exact BW | exact Lib.hid BW.out.drew | exact Lib.hid (Lib.below_drewN' BW.out _))⟩
        · have EQ := Lib.hid (fun W => eq57 p W (by omega))
          have hnm := name_no1 c1
          have FN2 := Lib.hid (fnd_same hkn hp hnm FN.out)
          generalize Envp.eqAt p.data.toList = ee at EQ c1
          clear hp hnm FN
          go_wp2_with (first | (go_at_call 57; go_must (refine (EQ.out _).mono ?_); rintro e w' ⟨rfl, rfl⟩))
          go_roundg (P.length - (k + 1))
          case measure => omega
          case rel => exact ⟨bf, sf, k + 1, rfl, rfl, by go_num, by omega, Nat.le_refl _, FN2, (by first | exact BW | exact Lib.hid BW.out.drew | exact Lib.hid (Lib.below_drewN' BW.out _))⟩
      · have hkk : k = P.length := by omega
        have FE := FN.out
        rw [hkk, List.take_length] at FE
        clear FN hkk
        cases HL : Envp.look (P.map (·.data.toList)) q.data.toList with
        | none =>
          rw [HL] at G59 FE
          unfold Fnd at FE
          simp only at FE
          subst FE
          clear HL
          go_wp2_with (first | (go_at_call 59; go_must (refine (G59.out _ BW.out).mono ?_); rintro e w2 ⟨rfl, hB2⟩; have HB2 := Lib.hid (BW.out.trans (hB2.mono BW.out.size)); clear hB2 G59; unfold answer zeroVar) | (go_at_call 60; go_must (refine (zero60 _).mono ?_); rintro e w3 ⟨rfl, hB3⟩; have HB3 := Lib.hid ((HB2.out.alloc HB2.out.size _).trans (hB3.mono (by have := HB2.out.size; simp; omega))); clear hB3 HB2) | (go_at_call 61; go_must (refine (str61 _ _).mono ?_); rintro e w3 ⟨rfl, hB3⟩; have HB3 := Lib.hid ((HB2.out.alloc HB2.out.size _).trans (hB3.mono (by have := HB2.out.size; simp; omega))); clear hB3 HB2))
          go_ret
          exact ⟨rfl, HB1.out.trans (HB3.out.mono hw1)⟩
        | some x =>
          rw [HL] at G59 FE
          unfold Fnd at FE
          simp only at FE
          obtain ⟨rfl, rfl⟩ := FE
          clear HL
          go_wp2_with (first | (go_at_call 59; go_must (refine (G59.out _ BW.out).mono ?_); rintro e w2 ⟨rfl, hB2⟩; have HB2 := Lib.hid (BW.out.trans (hB2.mono BW.out.size)); clear hB2 G59; unfold answer strVar) | (go_at_call 60; go_must (refine (zero60 _).mono ?_); rintro e w3 ⟨rfl, hB3⟩; have HB3 := Lib.hid ((HB2.out.alloc HB2.out.size _).trans (hB3.mono (by have := HB2.out.size; simp; omega))); clear hB3 HB2) | (go_at_call 61; go_must (refine (str61 _ _).mono ?_); rintro e w3 ⟨rfl, hB3⟩; have HB3 := Lib.hid ((HB2.out.alloc HB2.out.size _).trans (hB3.mono (by have := HB2.out.size; simp; omega))); clear hB3 HB2))
          go_ret
          exact ⟨rfl, HB1.out.trans (HB3.out.mono hw1)⟩
  · have HL : Envp.look (P.map (·.data.toList)) q.data.toList = none := by
      rw [Lib.toList_data] at hq0
      rw [List.isEmpty_iff.1 hq0]; exact look_empty _
    rw [HL] at G59
    clear HL
    go_wp2_with (first | (go_at_call 59; go_must (refine (G59.out _ BW.out).mono ?_); rintro e w2 ⟨rfl, hB2⟩; have HB2 := Lib.hid (BW.out.trans (hB2.mono BW.out.size)); clear hB2 G59; unfold answer zeroVar) | (go_at_call 60; go_must (refine (zero60 _).mono ?_); rintro e w3 ⟨rfl, hB3⟩; have HB3 := Lib.hid ((HB2.out.alloc HB2.out.size _).trans (hB3.mono (by have := HB2.out.size; simp; omega))); clear hB3 HB2) | (go_at_call 61; go_must (refine (str61 _ _).mono ?_); rintro e w3 ⟨rfl, hB3⟩; have HB3 := Lib.hid ((HB2.out.alloc HB2.out.size _).trans (hB3.mono (by have := HB2.out.size; simp; omega))); clear hB3 HB2))
    go_ret
    exact ⟨rfl, HB1.out.trans (HB3.out.mono hw1)⟩
end Go.Proofs.YthihppocokkoiaaDoor
