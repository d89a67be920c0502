/-
  The plain law of case folding: under ASCII names, folding each pair's name turns the case-insensitive thinning into the case-sensitive one of the folded pairs. Conditions: those in each theorem.
-/
import Derived.Test.YthihppocokkoiaaDoorMid
namespace Go.Proofs.YthihppocokkoiaaDoor
set_option linter.unusedVariables false
open Go.Shelf Go.RowKit Go.Lib Go.Sort

/-- a pair whose name is read in upper case -/
def foldP (x : List UInt8) : List UInt8 := keyU x ++ x.drop (Envp.keyOf x).length
/-- the name (and the '=' behind it) is ASCII -/
def AsciiKey (x : List UInt8) : Prop := ∀ b ∈ Envp.keyOf x, b.toNat < 128
theorem keyU_map {x : List UInt8} (h : AsciiKey x) : keyU x = (Envp.keyOf x).map Lib.upperB := by
  unfold keyU; rw [Lib.toUpperD_ascii _ h]; rfl
theorem upper_eq {b : UInt8} : Lib.upperB b = 61 ↔ b = 61 := by
  unfold Lib.upperB
  constructor
  · intro h
    split at h
    · rename_i c
      exfalso
      have h2 := congrArg UInt8.toNat h
      unfold Lib.isLowerB at c
      simp only [Bool.and_eq_true, decide_eq_true_eq, UInt8.le_iff_toNat_le] at c
      have c1 : (97 : UInt8).toNat = 97 := rfl
      have c2 : (122 : UInt8).toNat = 122 := rfl
      have c3 : (61 : UInt8).toNat = 61 := rfl
      have c4 : (32 : UInt8).toNat = 32 := rfl
      rw [UInt8.toNat_sub] at h2
      omega
    · exact h
  · rintro rfl; rfl
theorem index_key (x : List UInt8) : Envp.eqAt x = -1 ∧ Envp.keyOf x = [] ∨ ∃ i : Nat, Envp.eqAt x = i ∧ Envp.keyOf x = x.take i ++ [61] ∧ 61 ∉ x.take i ∧ x = x.take i ++ 61 :: x.drop (i + 1) ∧ i < x.length := by
  rcases at_cases x with h | ⟨i, h⟩
  · exact .inl ⟨h, key_none h⟩
  · obtain ⟨h1, h2, h3⟩ := Envp.split_of (x := x) (i := i) h
    refine .inr ⟨i, h, ?_, h2, h1, h3⟩
    rw [(key_some h).1, List.take_add_one]
    have : x[i]? = some 61 := (Lib.indexByte_some h).1
    rw [this]; rfl
theorem fold_facts {x : List UInt8} (h : AsciiKey x) : Envp.eqAt (foldP x) = Envp.eqAt x ∧ Envp.keyOf (foldP x) = keyU x := by
  rcases index_key x with ⟨h1, h2⟩ | ⟨i, h1, h2, h3, h4, h5⟩
  · have e : foldP x = x := by
      unfold foldP
      rw [keyU_map h, h2]; rfl
    rw [e]
    exact ⟨rfl, by rw [keyU_map h, h2]; rfl⟩
  · have e : foldP x = (x.take i).map Lib.upperB ++ 61 :: x.drop (i + 1) := by
      unfold foldP
      rw [keyU_map h, h2, List.map_append]
      have hl : (x.take i ++ [61]).length = i + 1 := by rw [List.length_append, List.length_take, Nat.min_eq_left (by omega)]; rfl
      rw [hl, List.append_assoc]
      rfl
    have n61 : 61 ∉ (x.take i).map Lib.upperB := by
      intro hm
      obtain ⟨b, hb, hb2⟩ := List.mem_map.1 hm
      rw [upper_eq] at hb2
      subst hb2
      exact h3 hb
    have hil : ((x.take i).map Lib.upperB).length = i := by rw [List.length_map, List.length_take, Nat.min_eq_left (by omega)]
    have hq : Envp.eqAt (foldP x) = (i : Int) := by
      rw [e]
      refine ib_hit _ i (fun j hj h9 => ?_) ?_
      · rw [List.getElem?_append_left (by omega)] at h9
        exact n61 (List.mem_of_getElem? h9)
      · rw [List.getElem?_append_right (by omega), hil]; simp
    refine ⟨by rw [hq, h1], ?_⟩
    rw [(key_some (x := foldP x) hq).1, e, List.take_append, hil, List.take_of_length_le (by omega), keyU_map h, h2, List.map_append]
    simp
    rfl
theorem fold_valid {x : List UInt8} (h : AsciiKey x) : Envp.valid (foldP x) = Envp.valid x := by
  unfold Envp.valid; rw [(fold_facts h).1]
theorem fold_name {x : List UInt8} (h : AsciiKey x) (hv : Envp.valid x = true) : Envp.nameOf (foldP x) = Lib.toUpperD (Envp.nameOf x) ∧ Envp.valOf (foldP x) = Envp.valOf x := by
  obtain ⟨k1, k2, k3, k4⟩ := Envp.key_valid hv
  have han : ∀ b ∈ Envp.nameOf x, b.toNat < 128 := fun b hb => h b (by rw [k1]; simp [hb])
  obtain ⟨j1, j2, j3, j4⟩ := Envp.key_valid (x := foldP x) (by rw [fold_valid h]; exact hv)
  have e := (fold_facts h).2
  rw [j1, keyU_map h, k1, List.map_append] at e
  have e2 := List.append_inj_left' e rfl
  refine ⟨by rw [e2, Lib.toUpperD_ascii _ han]; rfl, ?_⟩
  unfold Envp.valOf
  rw [(fold_facts h).1]
  obtain ⟨i, hi, hi0⟩ := Envp.valid_at hv
  rw [hi]
  unfold foldP
  have hl : (keyU x).length = (Envp.keyOf x).length := by rw [keyU_map h, List.length_map]
  have hk : (Envp.keyOf x).length = i + 1 := by
    rw [(key_some hi).1, List.length_take, Nat.min_eq_left (key_some hi).2]
  rw [Int.toNat_natCast, List.drop_append, List.drop_of_length_le (by omega), hl, hk]
  simp
/-- one step of the thinning, folded -/
theorem fold_step {st : List (List UInt8) × List UInt8} {x : List UInt8} (h : AsciiKey x) (hlast : True) : Envp.ddStep id (st.1.map foldP, Lib.toUpperD st.2) (foldP x) = ((Envp.ddStep Lib.toUpperD st x).1.map foldP, Lib.toUpperD (Envp.ddStep Lib.toUpperD st x).2) := by
  unfold Envp.ddStep
  rw [fold_valid h]
  by_cases hv : Envp.valid x = true
  · rw [if_pos hv, if_pos hv]
    simp only [id]
    rw [(fold_name h hv).1]
    by_cases c : compareBytes (Lib.toUpperD st.2) (Lib.toUpperD (Envp.nameOf x)) = 0
    · rw [if_pos c, if_pos c, List.map_append, List.map_dropLast]; rfl
    · rw [if_neg c, if_neg c, List.map_append]; rfl
  · rw [if_neg hv, if_neg hv]
theorem fold_all : ∀ (M : List (List UInt8)) (st : List (List UInt8) × List UInt8), (∀ x ∈ M, AsciiKey x) → (M.map foldP).foldl (Envp.ddStep id) (st.1.map foldP, Lib.toUpperD st.2) = ((M.foldl (Envp.ddStep Lib.toUpperD) st).1.map foldP, Lib.toUpperD (M.foldl (Envp.ddStep Lib.toUpperD) st).2)
  | [], st, _ => rfl
  | x :: M, st, h => by
    rw [List.map_cons, List.foldl_cons, List.foldl_cons, fold_step (h x (by simp)) trivial]
    exact fold_all M _ (fun y hy => h y (by simp [hy]))
/-- THE THINNED LIST, FOLDED, IS THE CASE-SENSITIVE LIST OF THE FOLDED PAIRS. -/
theorem env_folded {L R : List (List UInt8)} (h : EnvListT L R) (hL : ∀ x ∈ L, AsciiKey x) : Envp.Env (L.map foldP) (R.map foldP) := by
  obtain ⟨M, hM, rfl⟩ := h
  have hA : ∀ x ∈ M, AsciiKey x := fun x hx => hL x (hM.mem x hx)
  have e := fold_all M ([], []) hA
  have e0 : Lib.toUpperD [] = [] := by rw [Lib.toUpperD_ascii _ (fun b hb => by cases hb)]; rfl
  rw [e0] at e
  have e1 : (Envp.dd id (M.map foldP)).1 = (Envp.dd Lib.toUpperD M).1.map foldP := congrArg Prod.fst e
  rw [← e1]
  refine Envp.env_of_sorted ?_ (fun k => ?_)
  · rw [List.pairwise_map]
    refine List.Pairwise.imp_of_mem (fun {a b} ha hb hab => ?_) hM.inc
    rw [(fold_facts (hA a ha)).2, (fold_facts (hA b hb)).2]
    exact hab
  · rw [List.filter_map, List.filter_map]
    congr 1
    have e2 : ∀ N : List (List UInt8), (∀ x ∈ N, AsciiKey x) → N.filter ((fun x => Envp.keyOf x == k) ∘ foldP) = N.filter (fun x => keyU x == k) := fun N hN => by
      apply List.filter_congr
      intro x hx
      show (Envp.keyOf (foldP x) == k) = _
      rw [(fold_facts (hN x hx)).2]
    rw [e2 M hA, e2 L hL]
    exact hM.filt k
end Go.Proofs.YthihppocokkoiaaDoor
