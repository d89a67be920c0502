/-
  The closure that the environment's Get hands to the binary search, case-sensitive. Conditions: texts of at most 2 to the 30 bytes, the boxes that it is bound to.
-/
import Derived.Test.YthihppocokkoiaaDoorLe2
import Derived.Test.YthihppocokkoiaaDoorShelf2
namespace Go.Proofs.YthihppocokkoiaaDoor
set_option linter.unusedVariables false
open Go.Shelf Go.RowKit Go.Lib Go.Sort

/-- the boxes that Get's closure is bound to: the end, the environment, the name's length -/
structure GetBox (pe lb pq : Nat) (sv : Value) (k : Nat) (w : World) : Prop where
  e : ∀ n os, (grow (w.drewN n) os).cell? ⟨pe, 0, none⟩ = some (.int .i64 ((k : Int) + 1))
  l0 : ∀ n os, (grow (w.drewN n) os).cell? ⟨lb, 0, none⟩ = some (.bool false)
  l1 : ∀ n os, (grow (w.drewN n) os).cell? ⟨lb, 1, none⟩ = some sv
  q : ∀ n os, (grow (w.drewN n) os).cell? ⟨pq, 0, none⟩ = some (.int .i64 k)

theorem grow_zero (w : World) : grow (w.drewN 0) #[] = w := by rw [grow_empty]; rfl

theorem compare_grown_sv (sv : Value) (a b : ByteArray) (w : World) (c : Int) (hc : Hid (compareBytes a.data.toList b.data.toList = c)) :
    Calls Tryd.prog 76 #[.agg #[.bool false, sv], .string a, .string b] w fun e w' => e = .returned (.int .i64 c) ∧ ∃ q os', w' = grow (w.drewN q) os' :=
  (compare_false sv a b w).mono fun e w' ⟨he, hw⟩ => ⟨by rw [he, hc.out], 0, #[.cells #[.bool false, sv] 97], by rw [hw, alloc_eq_grow]; rfl⟩

theorem cmpCompare_any (a : Int) (w : World) (h0 : 0 ≤ a) (h1 : a < 256) :
    Calls Tryd.prog 144 #[.int .u8 a, .int .u8 61] w fun e w' => e = .returned (.int .i64 (if a < 61 then -1 else if 61 < a then 1 else 0)) ∧ w = w' := by
  by_cases c1 : a < 61
  · rw [if_pos c1]
    go_enter Tryd.func144, Tryd.ntmps144
    go_wp2_with go_in
    go_ret
    exact ⟨rfl, rfl⟩
  · rw [if_neg c1]
    by_cases c2 : 61 < a
    · rw [if_pos c2]
      go_enter Tryd.func144, Tryd.ntmps144
      go_wp2_with go_in
      go_ret
      exact ⟨rfl, rfl⟩
    · rw [if_neg c2]
      have c3 : a = 61 := by omega
      subst c3
      go_enter Tryd.func144, Tryd.ntmps144
      go_wp2_with go_in
      go_ret
      exact ⟨rfl, rfl⟩

set_option maxHeartbeats 1000000 in
theorem getclo_short (x q : ByteArray) (sv : Value) (pe lb pq : Nat) (w : World) (B : GetBox pe lb pq sv q.size w) (sx : x.size ≤ 1073741824) (sq : q.size ≤ 1073741824) (hlt : x.size < q.size + 1) (c : Int) (hc : Hid (compareBytes x.data.toList q.data.toList = c)) :
    Calls Tryd.prog 143 #[.string x, .string q, .pointer (some ⟨pe, 0, none⟩), .pointer (some ⟨lb, 0, none⟩), .pointer (some ⟨pq, 0, none⟩)] w fun e w' => e = .returned (.int .i64 c) ∧ ∃ n os', w' = grow (w.drewN n) os' := by
  have be := B.e 0 #[]
  have b0 := B.l0 0 #[]
  have b1 := B.l1 0 #[]
  rw [grow_zero] at be b0 b1
  have hz : (x.size : Int) < (q.size : Int) + 1 := by omega
  clear B
  go_enter Tryd.func143, Tryd.ntmps143
  go_wp2_with (go_at_call 76; go_must (refine (compare_grown_sv _ _ _ _ c hc).mono ?_); rintro e w' ⟨rfl, hq⟩)
  go_ret
  exact ⟨rfl, hq⟩

set_option maxHeartbeats 1000000 in
theorem getclo_ne (x q : ByteArray) (sv : Value) (pe lb pq : Nat) (w : World) (B : GetBox pe lb pq sv q.size w) (sx : x.size ≤ 1073741824) (sq : q.size ≤ 1073741824) (hlt : q.size < x.size) (r : Int) (hc : Hid (compareBytes (x.data.toList.take q.size) q.data.toList = r)) (hrz : (r == 0) = false) :
    Calls Tryd.prog 143 #[.string x, .string q, .pointer (some ⟨pe, 0, none⟩), .pointer (some ⟨lb, 0, none⟩), .pointer (some ⟨pq, 0, none⟩)] w fun e w' => e = .returned (.int .i64 r) ∧ ∃ n os', w' = grow (w.drewN n) os' := by
  have mixed : Tryd.prog.follows .mixedOrders = true := by kernel_rfl
  have be := B.e 0 #[]
  rw [grow_zero] at be
  have l0 := B.l0
  have l1 := B.l1
  have lq := B.q
  have hz : ¬ (x.size : Int) < (q.size : Int) + 1 := by omega
  have p1 : (0 : Int) ≤ (q.size : Int) := by omega
  have p2 : (q.size : Int) ≤ (x.size : Int) := by omega
  have p3 : (q.size : Int) < (x.size : Int) := by omega
  have CQ : Hid (∀ n os, Calls Tryd.prog 76 #[.agg #[.bool false, sv], .string (x.extract 0 q.size), .string q] (grow (w.drewN n) os) fun e w' => e = .returned (.int .i64 r) ∧ ∃ k os', w' = grow ((grow (w.drewN n) os).drewN k) os') :=
    fun n os => compare_grown_sv _ _ _ _ r (by show _ = _; rw [extract_data, List.drop_zero]; exact hc)
  clear B
  go_enter Tryd.func143, Tryd.ntmps143
  go_wp2_with fail
  go_quiet_grown (first | (go_at_call 76; refine Calls.grown_of (CQ.out _ _)))
  have lq2 := lq nq osq
  have HW : Hid (∃ n os', grow (w.drewN nq) osq = grow (w.drewN n) os') := ⟨nq, osq, rfl⟩
  clear l0 l1 lq CQ be
  generalize grow (w.drewN nq) osq = w2 at lq2 HW ⊢
  clear nq osq
  go_wp2_with (first | (fail))
  go_ret
  exact ⟨rfl, HW.out⟩

set_option maxHeartbeats 1000000 in
theorem getclo_eq (x q : ByteArray) (sv : Value) (pe lb pq : Nat) (w : World) (B : GetBox pe lb pq sv q.size w) (sx : x.size ≤ 1073741824) (sq : q.size ≤ 1073741824) (hlt : q.size < x.size) (hc : Hid (compareBytes (x.data.toList.take q.size) q.data.toList = 0)) (r : Int) (hr : Hid ((if ((x[q.size].toNat : Nat) : Int) < 61 then -1 else if 61 < ((x[q.size].toNat : Nat) : Int) then 1 else 0) = r)) :
    Calls Tryd.prog 143 #[.string x, .string q, .pointer (some ⟨pe, 0, none⟩), .pointer (some ⟨lb, 0, none⟩), .pointer (some ⟨pq, 0, none⟩)] w fun e w' => e = .returned (.int .i64 r) ∧ ∃ n os', w' = grow (w.drewN n) os' := by
  have mixed : Tryd.prog.follows .mixedOrders = true := by kernel_rfl
  have be := B.e 0 #[]
  rw [grow_zero] at be
  have l0 := B.l0
  have l1 := B.l1
  have lq := B.q
  have hz : ¬ (x.size : Int) < (q.size : Int) + 1 := by omega
  have p1 : (0 : Int) ≤ (q.size : Int) := by omega
  have p2 : (q.size : Int) ≤ (x.size : Int) := by omega
  have p3 : (q.size : Int) < (x.size : Int) := by omega
  have CQ : Hid (∀ n os, Calls Tryd.prog 76 #[.agg #[.bool false, sv], .string (x.extract 0 q.size), .string q] (grow (w.drewN n) os) fun e w' => e = .returned (.int .i64 0) ∧ ∃ k os', w' = grow ((grow (w.drewN n) os).drewN k) os') :=
    fun n os => compare_grown_sv _ _ _ _ 0 (by show _ = _; rw [extract_data, List.drop_zero]; exact hc)
  clear B
  go_enter Tryd.func143, Tryd.ntmps143
  go_wp2_with fail
  go_quiet_grown (first | (go_at_call 76; refine Calls.grown_of (CQ.out _ _)))
  have lq2 := lq nq osq
  have HW : Hid (∃ n os', grow (w.drewN nq) osq = grow (w.drewN n) os') := ⟨nq, osq, rfl⟩
  clear l0 l1 lq CQ be
  generalize grow (w.drewN nq) osq = w2 at lq2 HW ⊢
  clear nq osq
  go_wp2_with (first | (fail) | (go_at_call 144; go_must (refine (cmpCompare_any _ _ (by omega) (by have := UInt8.toNat_lt x[q.size]; omega)).mono ?_); rintro e w' ⟨rfl, rfl⟩; rw [hr.out]))
  go_ret
  exact ⟨rfl, HW.out⟩

theorem getclo_any (x : List UInt8) (q : ByteArray) (sv : Value) (pe lb pq : Nat) (w : World) (B : GetBox pe lb pq sv q.size w) (sx : x.length ≤ 1073741824) (sq : q.size ≤ 1073741824) :
    Calls Tryd.prog 143 #[encStr x, .string q, .pointer (some ⟨pe, 0, none⟩), .pointer (some ⟨lb, 0, none⟩), .pointer (some ⟨pq, 0, none⟩)] w fun e w' => e = .returned (.int .i64 (Envp.getCmp x q.data.toList)) ∧ ∃ n os', w' = grow (w.drewN n) os' := by
  have za : (⟨x.toArray⟩ : ByteArray).size = x.length := by simp [ByteArray.size]
  have zq : q.data.toList.length = q.size := by simp
  by_cases c1 : x.length < q.size + 1
  · have e : Envp.getCmp x q.data.toList = compareBytes x q.data.toList := by unfold Envp.getCmp; rw [if_pos (by omega)]
    rw [e]
    exact getclo_short ⟨x.toArray⟩ q sv pe lb pq w B (by omega) sq (by omega) _ rfl
  · by_cases c2 : compareBytes (x.take q.size) q.data.toList = 0
    · have e : Envp.getCmp x q.data.toList = Envp.cmpByte (x.getD q.size 0) 61 := by unfold Envp.getCmp; rw [if_neg (by omega), zq, if_pos c2]
      rw [e]
      have hlt : q.size < (⟨x.toArray⟩ : ByteArray).size := by omega
      refine getclo_eq ⟨x.toArray⟩ q sv pe lb pq w B (by omega) sq hlt c2 _ ?_
      have hx : (⟨x.toArray⟩ : ByteArray)[q.size] = x.getD q.size 0 := by
        rw [List.getD_eq_getElem?_getD, List.getElem?_eq_getElem (by omega)]; rfl
      show _ = _
      rw [hx]
      unfold Envp.cmpByte
      have k1 : (((x.getD q.size 0).toNat : Int) < 61) ↔ x.getD q.size 0 < 61 := by rw [UInt8.lt_iff_toNat_lt]; simp; omega
      have k2 : ((61 : Int) < ((x.getD q.size 0).toNat : Int)) ↔ 61 < x.getD q.size 0 := by rw [UInt8.lt_iff_toNat_lt]; simp; omega
      simp only [k1, k2]
    · have e : Envp.getCmp x q.data.toList = compareBytes (x.take q.size) q.data.toList := by unfold Envp.getCmp; rw [if_neg (by omega), zq, if_neg c2]
      rw [e]
      exact getclo_ne ⟨x.toArray⟩ q sv pe lb pq w B (by omega) sq (by omega) _ rfl (beq_eq_false_iff_ne.2 c2)
end Go.Proofs.YthihppocokkoiaaDoor
