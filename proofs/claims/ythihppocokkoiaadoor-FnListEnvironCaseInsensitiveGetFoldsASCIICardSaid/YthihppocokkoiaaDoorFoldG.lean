/-
  Get's comparison, case-insensitive, at ASCII names: it is the case-sensitive one of the folded pair and the folded query. Conditions: those in each theorem.
-/
import Derived.Test.YthihppocokkoiaaDoorGetCT
namespace Go.Proofs.YthihppocokkoiaaDoor
set_option linter.unusedVariables false
open Go.Shelf Go.RowKit Go.Lib Go.Sort

theorem up_append : ∀ (a b : List UInt8), (∀ x ∈ a, x.toNat < 128) → Lib.toUpperD (a ++ b) = a.map Lib.upperB ++ Lib.toUpperD b
  | [], b, _ => rfl
  | x :: t, b, ha => by
    have hb := ha x List.mem_cons_self
    have ih := up_append t b (fun y hy => ha y (List.mem_cons_of_mem _ hy))
    unfold Lib.toUpperD at ih ⊢
    rw [List.cons_append, Lib.mapD_step Lib.toUpperU (x :: (t ++ b)) (by simp), Lib.decodeL_ascii x (t ++ b) hb]
    dsimp only
    rw [if_pos (Lib.toUpperU_range x.toNat (by omega)).1, Lib.upper_byte ⟨x.toNat, hb⟩, List.drop_succ_cons, List.drop_zero, ih]
    simp
theorem up_eqsign (v : List UInt8) : Lib.toUpperD (61 :: v) = 61 :: Lib.toUpperD v := up_append [61] v (fun x hx => by rw [List.mem_singleton] at hx; subst hx; decide)
theorem no61_map {n : List UInt8} (h : 61 ∉ n) : 61 ∉ n.map Lib.upperB := by
  intro hm
  obtain ⟨b, hb, hb2⟩ := List.mem_map.1 hm
  rw [upper_eq] at hb2
  subst hb2
  exact h hb
theorem cmp_upper (b : UInt8) : Envp.cmpByte (Lib.upperB b) 61 = Envp.cmpByte b 61 := by
  unfold Lib.upperB
  split
  · rename_i c
    unfold Lib.isLowerB at c
    simp only [Bool.and_eq_true, decide_eq_true_eq, UInt8.le_iff_toNat_le] at c
    have c1 : (97 : UInt8).toNat = 97 := rfl
    have c2 : (122 : UInt8).toNat = 122 := rfl
    have c3 : (61 : UInt8).toNat = 61 := rfl
    have c4 : (32 : UInt8).toNat = 32 := rfl
    have h2 : (b - 32).toNat = b.toNat - 32 := by rw [UInt8.toNat_sub]; omega
    unfold Envp.cmpByte
    rw [if_neg (by rw [UInt8.lt_iff_toNat_lt]; omega), if_pos (by rw [UInt8.lt_iff_toNat_lt]; omega), if_neg (by rw [UInt8.lt_iff_toNat_lt]; omega), if_pos (by rw [UInt8.lt_iff_toNat_lt]; omega)]
  · rfl
theorem getCmpU_fold (n q v : List UInt8) (hn : 61 ∉ n) (hq : 61 ∉ q) (an : ∀ b ∈ n, b.toNat < 128) (aq : ∀ b ∈ q, b.toNat < 128) :
    getCmpU (n ++ 61 :: v) q = Envp.getCmp (n.map Lib.upperB ++ 61 :: v) (Lib.toUpperD q) := by
  have uq : Lib.toUpperD q = q.map Lib.upperB := by rw [Lib.toUpperD_ascii _ aq]; rfl
  have lq : (q.map Lib.upperB).length = q.length := by rw [List.length_map]
  have ln : (n.map Lib.upperB).length = n.length := by rw [List.length_map]
  have q61 := no61_map hq
  unfold getCmpU Envp.getCmp
  rw [uq, lq]
  have el : (n.map Lib.upperB ++ 61 :: v).length = (n ++ 61 :: v).length := by simp
  rw [el]
  by_cases c1 : (n ++ 61 :: v).length < q.length + 1
  · rw [if_pos c1, if_pos c1, up_append n _ an, up_eqsign]
    have hl : (n.map Lib.upperB).length < (q.map Lib.upperB).length := by simp at c1 ⊢; omega
    rw [Envp.cb_name _ _ _ q61 hl, Envp.cb_name _ _ _ q61 hl]
  · rw [if_neg c1, if_neg c1]
    by_cases c2 : n.length < q.length
    · have hl : (n.map Lib.upperB).length < (q.map Lib.upperB).length := by simp; omega
      obtain ⟨j, hj⟩ : ∃ j, q.length = n.length + (j + 1) := ⟨q.length - n.length - 1, by omega⟩
      have t1 : (n ++ 61 :: v).take q.length = n ++ 61 :: v.take j := by rw [hj, List.take_append, List.take_of_length_le (by omega)]; simp
      have t2 : (n.map Lib.upperB ++ 61 :: v).take q.length = n.map Lib.upperB ++ 61 :: v.take j := by rw [hj, List.take_append, List.take_of_length_le (by rw [ln]; omega), ln]; simp
      rw [t1, t2, up_append n _ an, up_eqsign, Envp.cb_name _ _ _ q61 hl, Envp.cb_name _ _ _ q61 hl]
      have hne : ¬ compareBytes (n.map Lib.upperB ++ [61]) (q.map Lib.upperB ++ [61]) = 0 := fun h0 => by
        have := congrArg List.length (Envp.cb_eq _ _ h0)
        simp at this; omega
      rw [if_neg hne, if_neg hne]
    · have t1 : (n ++ 61 :: v).take q.length = n.take q.length := List.take_append_of_le_length (by omega)
      have t2 : (n.map Lib.upperB ++ 61 :: v).take q.length = (n.take q.length).map Lib.upperB := by rw [List.take_append_of_le_length (by simp; omega), List.map_take]
      have u1 : Lib.toUpperD (n.take q.length) = (n.take q.length).map Lib.upperB := by rw [Lib.toUpperD_ascii _ (fun b hb => an b (List.mem_of_mem_take hb))]; rfl
      have e3 : Envp.cmpByte ((n ++ 61 :: v).getD q.length 0) 61 = Envp.cmpByte ((n.map Lib.upperB ++ 61 :: v).getD q.length 0) 61 := by
        by_cases c3 : q.length < n.length
        · have a1 : (n ++ 61 :: v).getD q.length 0 = n[q.length] := by rw [List.getD_eq_getElem?_getD, List.getElem?_append_left c3, List.getElem?_eq_getElem c3]; rfl
          have a2 : (n.map Lib.upperB ++ 61 :: v).getD q.length 0 = Lib.upperB n[q.length] := by rw [List.getD_eq_getElem?_getD, List.getElem?_append_left (by simp; omega), List.getElem?_map, List.getElem?_eq_getElem c3]; rfl
          rw [a1, a2, cmp_upper]
        · have hl : q.length = n.length := by omega
          have a1 : (n ++ 61 :: v).getD q.length 0 = 61 := by rw [hl, List.getD_eq_getElem?_getD, List.getElem?_append_right (by omega)]; simp
          have a2 : (n.map Lib.upperB ++ 61 :: v).getD q.length 0 = 61 := by rw [hl, List.getD_eq_getElem?_getD, List.getElem?_append_right (by simp)]; simp
          rw [a1, a2]
      rw [t1, t2, u1, e3]
end Go.Proofs.YthihppocokkoiaaDoor
