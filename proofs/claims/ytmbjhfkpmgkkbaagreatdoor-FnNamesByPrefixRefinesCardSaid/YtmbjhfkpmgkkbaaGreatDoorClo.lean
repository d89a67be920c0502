/-
  The comparison of the list environment, case-sensitive: compare, and the closure that the stable sort calls. Conditions: texts of at most 2 to the 30 bytes, the environment's box as it stands while the list is sorted.
-/
import Derived.Test.YtmbjhfkpmgkkbaaGreatDoorStable
import Derived.Test.YtmbjhfkpmgkkbaaGreatDoorEnvP
import Derived.Sort.EncStr
import Derived.Deep.RegionWith
namespace Go.Proofs.YtmbjhfkpmgkkbaaGreatDoor
set_option linter.unusedVariables false
open Go.Shelf Go.RowKit Go.Lib Go.Sort

theorem compare_false (sv : Value) (a b : ByteArray) (w : World) :
    Calls Tryz.prog 20 #[.agg #[.bool false, sv], .string a, .string b] w fun e w' => e = .returned (.int .i64 (compareBytes a.data.toList b.data.toList)) ∧ w' = w.alloc (.cells #[.bool false, sv] 56) := by
  go_enter Tryz.func20, Tryz.ntmps20
  go_wp2_with (go_at_call 28; refine (Tryz.strings_Compare _ _ _).mono ?_; rintro e w' ⟨rfl, rfl⟩)
  go_ret
  exact ⟨rfl, rfl⟩

theorem compare_grown (a b : ByteArray) (w : World) :
    Calls Tryz.prog 20 #[.agg #[.bool false, .slice none 0 0], .string a, .string b] w fun e w' => e = .returned (.int .i64 (compareBytes a.data.toList b.data.toList)) ∧ ∃ q os', w' = grow (w.drewN q) os' :=
  (compare_false _ a b w).mono fun e w' ⟨he, hw⟩ => ⟨he, 0, #[.cells #[.bool false, .slice none 0 0] 56], by rw [hw, alloc_eq_grow]; rfl⟩

/-- the box of the environment, as it stands while the list is sorted -/
def EnvBox (eb : Nat) (w : World) : Prop := ∀ n os, (grow (w.drewN n) os).cell? ⟨eb, 0, none⟩ = some (.bool false) ∧ (grow (w.drewN n) os).cell? ⟨eb, 1, none⟩ = some (.slice none 0 0)

set_option maxHeartbeats 1000000 in
theorem closure_pp (a b : ByteArray) (eb : Nat) (w : World) (i : Nat) (ha : Hid (indexByte a.data.toList 61 = i)) (hia : i + 1 ≤ a.size) (j : Nat) (hb : Hid (indexByte b.data.toList 61 = j)) (hjb : j + 1 ≤ b.size) (sa : a.size ≤ 1073741824) (sb : b.size ≤ 1073741824) (E : EnvBox eb w) :
    Calls Tryz.prog 18 #[.string a, .string b, .pointer (some ⟨eb, 0, none⟩)] w fun e w' => e = .returned (.int .i64 (compareBytes (a.data.toList.take (i + 1)) (b.data.toList.take (j + 1)))) ∧ ∃ q os', w' = grow (w.drewN q) os' := by
  have mixed : Tryz.prog.follows .mixedOrders = true := by kernel_rfl
  have e0 := fun n os => (E n os).1
  have e1 := fun n os => (E n os).2
  clear E
  obtain ⟨p, hp⟩ : ∃ p, p = i + 1 := ⟨_, rfl⟩
  rw [← hp]
  have zp : (i : Int) + 1 = (p : Int) := by omega
  have p1 : (0 : Int) ≤ (p : Int) := by omega
  have p2 : (p : Int) ≤ (a.size : Int) := by omega
  clear hp
  obtain ⟨q, hq⟩ : ∃ q, q = j + 1 := ⟨_, rfl⟩
  rw [← hq]
  have zq : (j : Int) + 1 = (q : Int) := by omega
  have p3 : (0 : Int) ≤ (q : Int) := by omega
  have p4 : (q : Int) ≤ (b.size : Int) := by omega
  clear hq
  go_enter Tryz.func18, Tryz.ntmps18
  go_wp2_with fail
  refine (Tryz.strings_IndexByte _ _ _).mono ?_
  rintro e w' ⟨rfl, rfl⟩
  rw [show ((61 : Int).toNat.toUInt8 : UInt8) = 61 from rfl, ha.out]
  go_wp2_with fail
  refine (Tryz.strings_IndexByte _ _ _).mono ?_
  rintro e w' ⟨rfl, rfl⟩
  rw [show ((61 : Int).toNat.toUInt8 : UInt8) = 61 from rfl, hb.out]
  go_wp2_with fail
  go_quiet_grown (first | (go_at_call 20; refine Calls.grown_of (compare_grown _ _ _)))
  go_wp2
  go_ret
  exact ⟨rfl, _, _, rfl⟩

set_option maxHeartbeats 1000000 in
theorem closure_pn (a b : ByteArray) (eb : Nat) (w : World) (i : Nat) (ha : Hid (indexByte a.data.toList 61 = i)) (hia : i + 1 ≤ a.size) (hb : Hid (indexByte b.data.toList 61 = -1)) (sa : a.size ≤ 1073741824) (sb : b.size ≤ 1073741824) (E : EnvBox eb w) :
    Calls Tryz.prog 18 #[.string a, .string b, .pointer (some ⟨eb, 0, none⟩)] w fun e w' => e = .returned (.int .i64 (compareBytes (a.data.toList.take (i + 1)) [])) ∧ ∃ q os', w' = grow (w.drewN q) os' := by
  have mixed : Tryz.prog.follows .mixedOrders = true := by kernel_rfl
  have e0 := fun n os => (E n os).1
  have e1 := fun n os => (E n os).2
  clear E
  obtain ⟨p, hp⟩ : ∃ p, p = i + 1 := ⟨_, rfl⟩
  rw [← hp]
  have zp : (i : Int) + 1 = (p : Int) := by omega
  have p1 : (0 : Int) ≤ (p : Int) := by omega
  have p2 : (p : Int) ≤ (a.size : Int) := by omega
  clear hp
  go_enter Tryz.func18, Tryz.ntmps18
  go_wp2_with fail
  refine (Tryz.strings_IndexByte _ _ _).mono ?_
  rintro e w' ⟨rfl, rfl⟩
  rw [show ((61 : Int).toNat.toUInt8 : UInt8) = 61 from rfl, ha.out]
  go_wp2_with fail
  refine (Tryz.strings_IndexByte _ _ _).mono ?_
  rintro e w' ⟨rfl, rfl⟩
  rw [show ((61 : Int).toNat.toUInt8 : UInt8) = 61 from rfl, hb.out]
  go_wp2_with fail
  go_quiet_grown (first | (go_at_call 20; refine Calls.grown_of (compare_grown _ _ _)))
  go_wp2
  go_ret
  exact ⟨rfl, _, _, rfl⟩

set_option maxHeartbeats 1000000 in
theorem closure_np (a b : ByteArray) (eb : Nat) (w : World) (ha : Hid (indexByte a.data.toList 61 = -1)) (j : Nat) (hb : Hid (indexByte b.data.toList 61 = j)) (hjb : j + 1 ≤ b.size) (sa : a.size ≤ 1073741824) (sb : b.size ≤ 1073741824) (E : EnvBox eb w) :
    Calls Tryz.prog 18 #[.string a, .string b, .pointer (some ⟨eb, 0, none⟩)] w fun e w' => e = .returned (.int .i64 (compareBytes [] (b.data.toList.take (j + 1)))) ∧ ∃ q os', w' = grow (w.drewN q) os' := by
  have mixed : Tryz.prog.follows .mixedOrders = true := by kernel_rfl
  have e0 := fun n os => (E n os).1
  have e1 := fun n os => (E n os).2
  clear E
  obtain ⟨q, hq⟩ : ∃ q, q = j + 1 := ⟨_, rfl⟩
  rw [← hq]
  have zq : (j : Int) + 1 = (q : Int) := by omega
  have p3 : (0 : Int) ≤ (q : Int) := by omega
  have p4 : (q : Int) ≤ (b.size : Int) := by omega
  clear hq
  go_enter Tryz.func18, Tryz.ntmps18
  go_wp2_with fail
  refine (Tryz.strings_IndexByte _ _ _).mono ?_
  rintro e w' ⟨rfl, rfl⟩
  rw [show ((61 : Int).toNat.toUInt8 : UInt8) = 61 from rfl, ha.out]
  go_wp2_with fail
  refine (Tryz.strings_IndexByte _ _ _).mono ?_
  rintro e w' ⟨rfl, rfl⟩
  rw [show ((61 : Int).toNat.toUInt8 : UInt8) = 61 from rfl, hb.out]
  go_wp2_with fail
  go_quiet_grown (first | (go_at_call 20; refine Calls.grown_of (compare_grown _ _ _)))
  go_wp2
  go_ret
  exact ⟨rfl, _, _, rfl⟩

set_option maxHeartbeats 1000000 in
theorem closure_nn (a b : ByteArray) (eb : Nat) (w : World) (ha : Hid (indexByte a.data.toList 61 = -1)) (hb : Hid (indexByte b.data.toList 61 = -1)) (sa : a.size ≤ 1073741824) (sb : b.size ≤ 1073741824) (E : EnvBox eb w) :
    Calls Tryz.prog 18 #[.string a, .string b, .pointer (some ⟨eb, 0, none⟩)] w fun e w' => e = .returned (.int .i64 (compareBytes [] [])) ∧ ∃ q os', w' = grow (w.drewN q) os' := by
  have mixed : Tryz.prog.follows .mixedOrders = true := by kernel_rfl
  have e0 := fun n os => (E n os).1
  have e1 := fun n os => (E n os).2
  clear E
  go_enter Tryz.func18, Tryz.ntmps18
  go_wp2_with fail
  refine (Tryz.strings_IndexByte _ _ _).mono ?_
  rintro e w' ⟨rfl, rfl⟩
  rw [show ((61 : Int).toNat.toUInt8 : UInt8) = 61 from rfl, ha.out]
  go_wp2_with fail
  refine (Tryz.strings_IndexByte _ _ _).mono ?_
  rintro e w' ⟨rfl, rfl⟩
  rw [show ((61 : Int).toNat.toUInt8 : UInt8) = 61 from rfl, hb.out]
  go_wp2_with fail
  go_quiet_grown (first | (go_at_call 20; refine Calls.grown_of (compare_grown _ _ _)))
  go_wp2
  go_ret
  exact ⟨rfl, _, _, rfl⟩

/-- the comparison as a function of two texts -/
def cfE (x y : List UInt8) : Int := compareBytes (Envp.keyOf x) (Envp.keyOf y)

theorem key_none {x : List UInt8} (h : indexByte x 61 = -1) : Envp.keyOf x = [] := by
  unfold Envp.keyOf Envp.eqAt; rw [h]; rfl
theorem key_some {x : List UInt8} {i : Nat} (h : indexByte x 61 = i) : Envp.keyOf x = x.take (i + 1) ∧ i + 1 ≤ x.length := by
  refine ⟨?_, (Envp.split_of h).2.2⟩
  unfold Envp.keyOf Envp.eqAt; rw [h]; congr 1
theorem at_cases (x : List UInt8) : indexByte x 61 = -1 ∨ ∃ i : Nat, indexByte x 61 = i := by
  have := indexByte_ge x 61
  by_cases c : indexByte x 61 = -1
  · exact Or.inl c
  · exact Or.inr ⟨(indexByte x 61).toNat, by omega⟩

theorem closure_any (x y : List UInt8) (eb : Nat) (w : World) (sx : x.length ≤ 1073741824) (sy : y.length ≤ 1073741824) (E : EnvBox eb w) :
    Calls Tryz.prog 18 #[encStr x, encStr y, .pointer (some ⟨eb, 0, none⟩)] w fun e w' => e = .returned (.int .i64 (cfE x y)) ∧ ∃ q os', w' = grow (w.drewN q) os' := by
  have ea : (⟨x.toArray⟩ : ByteArray).data.toList = x := rfl
  have eb' : (⟨y.toArray⟩ : ByteArray).data.toList = y := rfl
  have za : (⟨x.toArray⟩ : ByteArray).size = x.length := by simp [ByteArray.size]
  have zb : (⟨y.toArray⟩ : ByteArray).size = y.length := by simp [ByteArray.size]
  unfold cfE
  rcases at_cases x with hx | ⟨i, hx⟩
  · rcases at_cases y with hy | ⟨j, hy⟩
    · rw [key_none hx, key_none hy]
      exact closure_nn ⟨x.toArray⟩ ⟨y.toArray⟩ eb w hx hy (by omega) (by omega) E
    · rw [key_none hx, (key_some hy).1]
      exact closure_np ⟨x.toArray⟩ ⟨y.toArray⟩ eb w hx j hy (by have := (key_some hy).2; omega) (by omega) (by omega) E
  · rcases at_cases y with hy | ⟨j, hy⟩
    · rw [(key_some hx).1, key_none hy]
      exact closure_pn ⟨x.toArray⟩ ⟨y.toArray⟩ eb w i hx (by have := (key_some hx).2; omega) hy (by omega) (by omega) E
    · rw [(key_some hx).1, (key_some hy).1]
      exact closure_pp ⟨x.toArray⟩ ⟨y.toArray⟩ eb w i hx (by have := (key_some hx).2; omega) j hy (by have := (key_some hy).2; omega) (by omega) (by omega) E
end Go.Proofs.YtmbjhfkpmgkkbaaGreatDoor
