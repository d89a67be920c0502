/-
  The plain law of Each's calls, and the walks of its law's bound and key order. Conditions: those in each theorem.
-/
import Derived.Test.YthihppocokkoiaaDoorLwU
import Derived.Test.YthihppocokkoiaaDoorLwV
namespace Go.Proofs.YthihppocokkoiaaDoor
set_option linter.unusedVariables false
open Go.Shelf Go.RowKit Go.Lib Go.Sort

/-! ## the plain law -/
def vals (L : List (List UInt8)) (q : List UInt8) : Option (List UInt8) := (Envp.look L q).map Envp.valOf
/-- N lists the names that L gives a value -/
structure Names (L N : List (List UInt8)) : Prop where
  nodup : N.Nodup
  mem : ∀ q, q ∈ N ↔ (vals L q).isSome = true
theorem names_nil : Names [] [] := ⟨List.nodup_nil, fun q => by simp [vals, Envp.look]⟩
theorem vals_old {L : List (List UInt8)} {x : List UInt8} (hx : Envp.valid x = false) : vals (L ++ [x]) = vals L := by
  funext q
  unfold vals
  rw [Envp.look_snoc, if_neg (by unfold Envp.isName; rw [hx]; simp)]
theorem vals_put {L : List (List UInt8)} {x : List UInt8} (hx : Envp.valid x = true) : vals (L ++ [x]) = fun k => if k = Envp.nameOf x then some (Envp.valOf x) else vals L k := by
  funext q
  unfold vals
  rw [Envp.look_snoc]
  by_cases e : q = Envp.nameOf x
  · rw [if_pos e, if_pos (by unfold Envp.isName; rw [hx, e]; simp)]; rfl
  · rw [if_neg e, if_neg (by unfold Envp.isName; rw [hx]; simpa using fun h => e h.symm)]
theorem names_old {L N : List (List UInt8)} {x : List UInt8} (h : Names L N) (hx : Envp.valid x = false) : Names (L ++ [x]) N := ⟨h.nodup, fun q => by rw [vals_old hx]; exact h.mem q⟩
theorem names_hit {L N : List (List UInt8)} {x : List UInt8} (h : Names L N) (hx : Envp.valid x = true) (hs : (vals L (Envp.nameOf x)).isSome = true) : Names (L ++ [x]) N := ⟨h.nodup, fun q => by
  rw [vals_put hx]
  by_cases e : q = Envp.nameOf x
  · subst e; simp only [if_true, Option.isSome_some, iff_true]; exact (h.mem _).2 hs
  · have e2 : (fun k => if k = Envp.nameOf x then some (Envp.valOf x) else vals L k) q = vals L q := if_neg e
    rw [e2]; exact h.mem q⟩
theorem names_new {L N : List (List UInt8)} {x : List UInt8} (h : Names L N) (hx : Envp.valid x = true) (hs : (vals L (Envp.nameOf x)).isSome = false) : Names (L ++ [x]) (Envp.nameOf x :: N) :=
  ⟨List.nodup_cons.2 ⟨fun hm => (by rw [h.mem, hs] at hm; cases hm), h.nodup⟩, fun q => by
    rw [vals_put hx, List.mem_cons]
    by_cases e : q = Envp.nameOf x
    · subst e; simp
    · have e2 : (fun k => if k = Envp.nameOf x then some (Envp.valOf x) else vals L k) q = vals L q := if_neg e
      rw [e2, ← h.mem q]; simp [e]⟩
theorem env_look {L R : List (List UInt8)} (hE : Envp.Env L R) {i : Nat} (hi : i < R.length) : Envp.look L (Envp.nameOf R[i]) = some R[i] := by
  have h := hE.ans (Envp.nameOf R[i])
  rw [Envp.filter_single hE.inc (fun y hy => (hE.valid y hy).2) hi rfl] at h
  cases hl : Envp.look L (Envp.nameOf R[i]) with
  | none => rw [hl] at h; cases h
  | some z => rw [hl] at h; simp only [Option.toList_some, List.cons.injEq, and_true] at h; rw [h]
theorem env_val {L R : List (List UInt8)} (hE : Envp.Env L R) {i : Nat} (hi : i < R.length) : vals L (Envp.nameOf R[i]) = some (Envp.valOf R[i]) := by
  unfold vals; rw [env_look hE hi]; rfl
theorem env_inc {L R : List (List UInt8)} (hE : Envp.Env L R) {i : Nat} (hi : i + 1 < R.length) : compareBytes (Envp.nameOf R[i] ++ [61]) (Envp.nameOf R[i + 1] ++ [61]) < 0 := by
  have h := hE.inc
  rw [List.pairwise_iff_getElem] at h
  have := h i (i + 1) (by omega) hi (by omega)
  rw [(Envp.key_valid (hE.valid _ (List.getElem_mem _)).2).1, (Envp.key_valid (hE.valid _ (List.getElem_mem _)).2).1] at this
  exact this
theorem env_count {L R N : List (List UInt8)} (hE : Envp.Env L R) (h : Names L N) : R.length = N.length := by
  have nd : (R.map Envp.nameOf).Nodup := by
    unfold List.Nodup
    rw [List.pairwise_map]
    refine List.Pairwise.imp_of_mem (fun {a b} ha hb hab e => ?_) hE.inc
    rw [(Envp.key_valid (hE.valid _ ha).2).1, (Envp.key_valid (hE.valid _ hb).2).1, e] at hab
    exact Envp.blt_irr _ hab
  have a1 : (R.map Envp.nameOf).length ≤ N.length := sub_length _ _ nd (fun x hx => by
    obtain ⟨y, hy, rfl⟩ := List.mem_map.1 hx
    obtain ⟨i, hi, rfl⟩ := List.mem_iff_getElem.1 hy
    rw [h.mem, env_val hE hi]; rfl)
  have a2 : N.length ≤ (R.map Envp.nameOf).length := sub_length _ _ h.nodup (fun x hx => by
    rw [h.mem] at hx
    unfold vals at hx
    have ha := hE.ans x
    cases hl : Envp.look L x with
    | none => rw [hl] at hx; cases hx
    | some z =>
      rw [hl] at ha
      have hz : z ∈ R.filter (Envp.isName x) := by rw [ha]; simp
      rw [List.mem_filter] at hz
      have h2 := hz.2
      unfold Envp.isName at h2
      simp only [Bool.and_eq_true, beq_iff_eq] at h2
      exact List.mem_map.2 ⟨z, hz.1, h2.2⟩)
  rw [List.length_map] at a1 a2
  omega

/-! ## the order of the keys -/
theorem kc_take {A B : List UInt8} {k : Nat} (ht : A.take k = B.take k) : compareBytes A B = compareBytes (A.drop k) (B.drop k) := by
  conv => lhs; rw [← List.take_append_drop k A, ← List.take_append_drop k B, ht, Envp.cb_app]
theorem drop_of {A : List UInt8} {k : Nat} {x : UInt8} (h : A[k]? = some x) : A.drop k = x :: A.drop (k + 1) := by
  obtain ⟨hk, rfl⟩ := List.getElem?_eq_some_iff.1 h
  exact List.drop_eq_getElem_cons hk
theorem kc_lt {A B : List UInt8} {k : Nat} {x y : UInt8} (ht : A.take k = B.take k) (hA : A[k]? = some x) (hB : B[k]? = some y) (h : ((x.toNat : Nat) : Int) < ((y.toNat : Nat) : Int)) : (-1 : Int) = compareBytes A B := by
  have h2 : x < y := by rw [UInt8.lt_iff_toNat_lt]; omega
  rw [kc_take ht, drop_of hA, drop_of hB, compareBytes, if_pos h2]
theorem kc_gt {A B : List UInt8} {k : Nat} {x y : UInt8} (ht : A.take k = B.take k) (hA : A[k]? = some x) (hB : B[k]? = some y) (h : ((y.toNat : Nat) : Int) < ((x.toNat : Nat) : Int)) : (1 : Int) = compareBytes A B := by
  have h2 : y < x := by rw [UInt8.lt_iff_toNat_lt]; omega
  have h3 : ¬ x < y := by rw [UInt8.lt_iff_toNat_lt]; omega
  rw [kc_take ht, drop_of hA, drop_of hB, compareBytes, if_neg h3, if_pos h2]
theorem kc_eq {A B : List UInt8} {k : Nat} {x y : UInt8} (ht : A.take k = B.take k) (hA : A[k]? = some x) (hB : B[k]? = some y) (h1 : ¬ ((x.toNat : Nat) : Int) < ((y.toNat : Nat) : Int)) (h2 : ¬ ((y.toNat : Nat) : Int) < ((x.toNat : Nat) : Int)) : A.take (k + 1) = B.take (k + 1) := by
  have e : x = y := UInt8.toNat_inj.1 (by omega)
  rw [List.take_add_one, List.take_add_one, hA, hB, ht, e]
theorem kc_end {A B : List UInt8} {k : Nat} (ht : A.take k = B.take k) (hk : (k : Int) = A.length ∧ (k : Int) ≤ B.length ∨ (k : Int) = B.length ∧ (k : Int) ≤ A.length) : compareBytes A B = if A.length < B.length then -1 else if B.length < A.length then 1 else 0 := by
  rw [kc_take ht]
  by_cases c1 : A.length < B.length
  · rw [if_pos c1, List.drop_of_length_le (by omega)]
    cases hd : B.drop k with
    | nil => have := congrArg List.length hd; simp at this; omega
    | cons _ _ => rfl
  · rw [if_neg c1]
    have eA : B.length < A.length → B.drop k = [] := fun h => List.drop_of_length_le (by omega)
    by_cases c2 : B.length < A.length
    · rw [if_pos c2, eA c2]
      cases hd : A.drop k with
      | nil => have := congrArg List.length hd; simp at this; omega
      | cons _ _ => rfl
    · rw [if_neg c2, List.drop_of_length_le (by omega), List.drop_of_length_le (by omega)]; rfl
theorem kc_byte (a : ByteArray) (k : Nat) (h : k < a.size) : (a.data.toList ++ [61])[k]? = some a[k] := by
  rw [List.getElem?_append_left (by simpa using h)]; exact Lib.data_getElem? a k h
theorem kc_last (a : ByteArray) (k : Nat) (h : k = a.size) : (a.data.toList ++ [61])[k]? = some 61 := by
  rw [List.getElem?_append_right (by simp [h])]; simp [h]

set_option maxHeartbeats 4000000 in
theorem key65 (a b : ByteArray) (w : World) (ha : (a.size : Int) ≤ 1073741824) (hb : (b.size : Int) ≤ 1073741824) : Calls Tryd.prog 65 #[.string a, .string b] w fun e w' => e = .returned (.int .i64 (compareBytes (a.data.toList ++ [61]) (b.data.toList ++ [61]))) ∧ w = w' := by
  obtain ⟨A, hA⟩ : ∃ A, A = a.data.toList ++ [61] := ⟨_, rfl⟩
  obtain ⟨B, hB⟩ : ∃ B, B = b.data.toList ++ [61] := ⟨_, rfl⟩
  have lA : Hid (A.length = a.size + 1) := Lib.hid (by rw [hA]; simp)
  have lB : Hid (B.length = b.size + 1) := Lib.hid (by rw [hB]; simp)
  have KA : Hid ((∀ k, (h : k < a.size) → A[k]? = some a[k]) ∧ ∀ k, k = a.size → A[k]? = some 61) := Lib.hid ⟨fun k h => by rw [hA]; exact kc_byte a k h, fun k h => by rw [hA]; exact kc_last a k h⟩
  have KB : Hid ((∀ k, (h : k < b.size) → B[k]? = some b[k]) ∧ ∀ k, k = b.size → B[k]? = some 61) := Lib.hid ⟨fun k h => by rw [hB]; exact kc_byte b k h, fun k h => by rw [hB]; exact kc_last b k h⟩
  rw [← hA, ← hB]
  clear hA hB
  have h61 : (((61 : UInt8).toNat : Nat) : Int) = 61 := rfl
  go_enter Tryd.func65, Tryd.ntmps65
  by_cases h0 : (b.size : Int) + 1 < (a.size : Int) + 1
  · go_wp2
    go_loop [8] (fun v8 => ∃ k : Nat, v8 = .int .i64 k ∧ (k : Int) ≤ (b.size : Int) + 1 ∧ Hid (A.take k = B.take k)) (fun v8 => b.size + 1 - (intOf v8).toNat)
    case atStart => exact ⟨0, rfl, by omega, Lib.hid (by simp)⟩
    case round =>
      obtain ⟨k, rfl, hk, HT⟩ := hrel
      by_cases hlt : (k : Int) < (b.size : Int) + 1
      · by_cases c1 : (k : Int) < (a.size : Int) <;> by_cases c2 : (k : Int) < (b.size : Int)
        · have k1 : k < a.size := by omega
          have k2 : k < b.size := by omega
          have FA : Hid (A[k]? = some a[k]) := Lib.hid (KA.out.1 k k1)
          have FB : Hid (B[k]? = some b[k]) := Lib.hid (KB.out.1 k k2)
          by_cases d1 : ((a[k].toNat : Nat) : Int) < ((b[k].toNat : Nat) : Int)
          · have R := Lib.hid (kc_lt HT.out FA.out FB.out (by first | exact d1 | (rw [h61]; exact d1)))
            clear FA FB HT
            go_wp2
            go_ret
            exact ⟨ret_int R.out, rfl⟩
          · by_cases d2 : ((b[k].toNat : Nat) : Int) < ((a[k].toNat : Nat) : Int)
            · have R := Lib.hid (kc_gt HT.out FA.out FB.out (by first | exact d2 | (rw [h61]; exact d2)))
              clear FA FB HT
              go_wp2
              go_ret
              exact ⟨ret_int R.out, rfl⟩
            · have HT2 := Lib.hid (kc_eq HT.out FA.out FB.out (by first | exact d1 | (rw [h61]; exact d1)) (by first | exact d2 | (rw [h61]; exact d2)))
              clear FA FB HT
              go_wp2
              go_round
              case rel => exact ⟨k + 1, by go_num, by omega, HT2⟩
              case measure => simp [intOf]; omega
        · have k1 : k < a.size := by omega
          have k2 : k = b.size := by omega
          have FA : Hid (A[k]? = some a[k]) := Lib.hid (KA.out.1 k k1)
          have FB : Hid (B[k]? = some (61 : UInt8)) := Lib.hid (KB.out.2 k k2)
          clear k2
          by_cases d1 : ((a[k].toNat : Nat) : Int) < 61
          · have R := Lib.hid (kc_lt HT.out FA.out FB.out (by first | exact d1 | (rw [h61]; exact d1)))
            clear FA FB HT
            go_wp2
            go_ret
            exact ⟨ret_int R.out, rfl⟩
          · by_cases d2 : 61 < ((a[k].toNat : Nat) : Int)
            · have R := Lib.hid (kc_gt HT.out FA.out FB.out (by first | exact d2 | (rw [h61]; exact d2)))
              clear FA FB HT
              go_wp2
              go_ret
              exact ⟨ret_int R.out, rfl⟩
            · have HT2 := Lib.hid (kc_eq HT.out FA.out FB.out (by first | exact d1 | (rw [h61]; exact d1)) (by first | exact d2 | (rw [h61]; exact d2)))
              clear FA FB HT
              go_wp2
              go_round
              case rel => exact ⟨k + 1, by go_num, by omega, HT2⟩
              case measure => simp [intOf]; omega
        · have k1 : k = a.size := by omega
          have k2 : k < b.size := by omega
          have FA : Hid (A[k]? = some (61 : UInt8)) := Lib.hid (KA.out.2 k k1)
          have FB : Hid (B[k]? = some b[k]) := Lib.hid (KB.out.1 k k2)
          clear k1
          by_cases d1 : 61 < ((b[k].toNat : Nat) : Int)
          · have R := Lib.hid (kc_lt HT.out FA.out FB.out (by first | exact d1 | (rw [h61]; exact d1)))
            clear FA FB HT
            go_wp2
            go_ret
            exact ⟨ret_int R.out, rfl⟩
          · by_cases d2 : ((b[k].toNat : Nat) : Int) < 61
            · have R := Lib.hid (kc_gt HT.out FA.out FB.out (by first | exact d2 | (rw [h61]; exact d2)))
              clear FA FB HT
              go_wp2
              go_ret
              exact ⟨ret_int R.out, rfl⟩
            · have HT2 := Lib.hid (kc_eq HT.out FA.out FB.out (by first | exact d1 | (rw [h61]; exact d1)) (by first | exact d2 | (rw [h61]; exact d2)))
              clear FA FB HT
              go_wp2
              go_round
              case rel => exact ⟨k + 1, by go_num, by omega, HT2⟩
              case measure => simp [intOf]; omega
        · have k1 : k = a.size := by omega
          have k2 : k = b.size := by omega
          have FA : Hid (A[k]? = some (61 : UInt8)) := Lib.hid (KA.out.2 k k1)
          have FB : Hid (B[k]? = some (61 : UInt8)) := Lib.hid (KB.out.2 k k2)
          clear k1
          clear k2
          have HT2 := Lib.hid (kc_eq HT.out FA.out FB.out (by decide) (by decide))
          clear FA FB HT
          go_wp2
          go_round
          case rel => exact ⟨k + 1, by go_num, by omega, HT2⟩
          case measure => simp [intOf]; omega
      · have E := Lib.hid (kc_end HT.out (by rw [lA.out, lB.out]; omega))
        clear HT KA KB
        have R : Hid ((1 : Int) = compareBytes A B) := Lib.hid (by rw [E.out, lA.out, lB.out, if_neg (by omega), if_pos (by omega)])
        clear E
        go_wp2
        go_ret
        exact ⟨ret_int R.out, rfl⟩
  · go_wp2
    go_loop [8] (fun v8 => ∃ k : Nat, v8 = .int .i64 k ∧ (k : Int) ≤ (a.size : Int) + 1 ∧ Hid (A.take k = B.take k)) (fun v8 => a.size + 1 - (intOf v8).toNat)
    case atStart => exact ⟨0, rfl, by omega, Lib.hid (by simp)⟩
    case round =>
      obtain ⟨k, rfl, hk, HT⟩ := hrel
      by_cases hlt : (k : Int) < (a.size : Int) + 1
      · by_cases c1 : (k : Int) < (a.size : Int) <;> by_cases c2 : (k : Int) < (b.size : Int)
        · have k1 : k < a.size := by omega
          have k2 : k < b.size := by omega
          have FA : Hid (A[k]? = some a[k]) := Lib.hid (KA.out.1 k k1)
          have FB : Hid (B[k]? = some b[k]) := Lib.hid (KB.out.1 k k2)
          by_cases d1 : ((a[k].toNat : Nat) : Int) < ((b[k].toNat : Nat) : Int)
          · have R := Lib.hid (kc_lt HT.out FA.out FB.out (by first | exact d1 | (rw [h61]; exact d1)))
            clear FA FB HT
            go_wp2
            go_ret
            exact ⟨ret_int R.out, rfl⟩
          · by_cases d2 : ((b[k].toNat : Nat) : Int) < ((a[k].toNat : Nat) : Int)
            · have R := Lib.hid (kc_gt HT.out FA.out FB.out (by first | exact d2 | (rw [h61]; exact d2)))
              clear FA FB HT
              go_wp2
              go_ret
              exact ⟨ret_int R.out, rfl⟩
            · have HT2 := Lib.hid (kc_eq HT.out FA.out FB.out (by first | exact d1 | (rw [h61]; exact d1)) (by first | exact d2 | (rw [h61]; exact d2)))
              clear FA FB HT
              go_wp2
              go_round
              case rel => exact ⟨k + 1, by go_num, by omega, HT2⟩
              case measure => simp [intOf]; omega
        · have k1 : k < a.size := by omega
          have k2 : k = b.size := by omega
          have FA : Hid (A[k]? = some a[k]) := Lib.hid (KA.out.1 k k1)
          have FB : Hid (B[k]? = some (61 : UInt8)) := Lib.hid (KB.out.2 k k2)
          clear k2
          by_cases d1 : ((a[k].toNat : Nat) : Int) < 61
          · have R := Lib.hid (kc_lt HT.out FA.out FB.out (by first | exact d1 | (rw [h61]; exact d1)))
            clear FA FB HT
            go_wp2
            go_ret
            exact ⟨ret_int R.out, rfl⟩
          · by_cases d2 : 61 < ((a[k].toNat : Nat) : Int)
            · have R := Lib.hid (kc_gt HT.out FA.out FB.out (by first | exact d2 | (rw [h61]; exact d2)))
              clear FA FB HT
              go_wp2
              go_ret
              exact ⟨ret_int R.out, rfl⟩
            · have HT2 := Lib.hid (kc_eq HT.out FA.out FB.out (by first | exact d1 | (rw [h61]; exact d1)) (by first | exact d2 | (rw [h61]; exact d2)))
              clear FA FB HT
              go_wp2
              go_round
              case rel => exact ⟨k + 1, by go_num, by omega, HT2⟩
              case measure => simp [intOf]; omega
        · have k1 : k = a.size := by omega
          have k2 : k < b.size := by omega
          have FA : Hid (A[k]? = some (61 : UInt8)) := Lib.hid (KA.out.2 k k1)
          have FB : Hid (B[k]? = some b[k]) := Lib.hid (KB.out.1 k k2)
          clear k1
          by_cases d1 : 61 < ((b[k].toNat : Nat) : Int)
          · have R := Lib.hid (kc_lt HT.out FA.out FB.out (by first | exact d1 | (rw [h61]; exact d1)))
            clear FA FB HT
            go_wp2
            go_ret
            exact ⟨ret_int R.out, rfl⟩
          · by_cases d2 : ((b[k].toNat : Nat) : Int) < 61
            · have R := Lib.hid (kc_gt HT.out FA.out FB.out (by first | exact d2 | (rw [h61]; exact d2)))
              clear FA FB HT
              go_wp2
              go_ret
              exact ⟨ret_int R.out, rfl⟩
            · have HT2 := Lib.hid (kc_eq HT.out FA.out FB.out (by first | exact d1 | (rw [h61]; exact d1)) (by first | exact d2 | (rw [h61]; exact d2)))
              clear FA FB HT
              go_wp2
              go_round
              case rel => exact ⟨k + 1, by go_num, by omega, HT2⟩
              case measure => simp [intOf]; omega
        · have k1 : k = a.size := by omega
          have k2 : k = b.size := by omega
          have FA : Hid (A[k]? = some (61 : UInt8)) := Lib.hid (KA.out.2 k k1)
          have FB : Hid (B[k]? = some (61 : UInt8)) := Lib.hid (KB.out.2 k k2)
          clear k1
          clear k2
          have HT2 := Lib.hid (kc_eq HT.out FA.out FB.out (by decide) (by decide))
          clear FA FB HT
          go_wp2
          go_round
          case rel => exact ⟨k + 1, by go_num, by omega, HT2⟩
          case measure => simp [intOf]; omega
      · have E := Lib.hid (kc_end HT.out (by rw [lA.out, lB.out]; omega))
        clear HT KA KB
        by_cases c : (a.size : Int) + 1 < (b.size : Int) + 1
        · have R : Hid ((-1 : Int) = compareBytes A B) := Lib.hid (by rw [E.out, lA.out, lB.out, if_pos (by omega)])
          clear E
          go_wp2
          go_ret
          exact ⟨ret_int R.out, rfl⟩
        · have R : Hid ((0 : Int) = compareBytes A B) := Lib.hid (by rw [E.out, lA.out, lB.out, if_neg (by omega), if_neg (by omega)])
          clear E
          go_wp2
          go_ret
          exact ⟨ret_int R.out, rfl⟩

set_option maxHeartbeats 1000000 in
theorem bytes64 (a : Option Addr) (c : Nat) (P : List ByteArray) (w : World) (hc : P ≠ [] → ∃ b off, a = some ⟨b, off, none⟩ ∧ ∀ j, j < P.length → w.cell? ⟨b, off + j, none⟩ = some (.string (P.getD j ByteArray.empty))) :
    Calls Tryd.prog 64 #[.slice a P.length c] w fun e w' => GuardSay (Small P) e ∧ w = w' := by
  go_enter Tryd.func64, Tryd.ntmps64
  by_cases hn : (1048576 : Int) < (P.length : Int)
  · go_wp2
    go_ret
    exact ⟨gs_no rfl, rfl⟩
  · go_wp2
    go_loop [3, 4] (fun v3 v4 => ∃ t k : Nat, v3 = .int .i64 t ∧ v4 = .int .i64 k ∧ (t : Int) ≤ 1048576 ∧ (k : Int) ≤ (P.length : Int) ∧ Hid (∀ j, j < k → (P.getD j ByteArray.empty).size ≤ 1048576)) (fun v3 v4 => P.length - (intOf v4).toNat)
    case atStart => exact ⟨P.length, 0, rfl, rfl, by omega, by omega, Lib.hid fun j hj => by omega⟩
    case round =>
      obtain ⟨t, k, rfl, rfl, ht, hk, HS⟩ := hrel
      by_cases hlt : (k : Int) < (P.length : Int)
      · obtain ⟨b, off, rfl, hcell⟩ := hc (by rintro rfl; simp at hlt; omega)
        have hx := hcell k (by omega)
        obtain ⟨s, hs⟩ : ∃ s, s = P.getD k ByteArray.empty := ⟨_, rfl⟩
        rw [← hs] at hx
        have HS2 : Hid (s.size ≤ 1048576 → ∀ j, j < k + 1 → (P.getD j ByteArray.empty).size ≤ 1048576) := Lib.hid fun h j hj => by
          by_cases e : j = k
          · subst e; rw [← hs]; exact h
          · exact HS.out j (by omega)
        clear hc hcell hs
        by_cases c1 : (1048576 : Int) < (s.size : Int)
        · go_wp2
          go_ret
          exact ⟨gs_no rfl, rfl⟩
        · by_cases c2 : (1048576 : Int) < (t : Int) + (s.size : Int)
          · go_wp2
            go_ret
            exact ⟨gs_no rfl, rfl⟩
          · go_wp2
            go_round
            case rel => exact ⟨t + s.size, k + 1, by go_num, by go_num, by omega, by omega, Lib.hid (HS2.out (by omega))⟩
            case measure => simp [intOf]; omega
      · have HF : Hid (Small P) := Lib.hid ⟨by omega, fun j hj => HS.out j (by omega)⟩
        clear hc
        go_wp2
        go_ret
        exact ⟨gs_yes rfl HF.out, rfl⟩
end Go.Proofs.YthihppocokkoiaaDoor
