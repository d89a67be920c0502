/-
  The comparison that the stable sort calls, case-insensitive (printed by genT.py out of the case-sensitive one). Conditions: texts of at most 2 to the 30 bytes, the environment's box as it stands while the list is sorted, the three tables.
-/
import Derived.Test.YthihppocokkoiaaDoorUp
import Derived.Test.YthihppocokkoiaaDoorClo
import Derived.Test.YthihppocokkoiaaDoorCut
namespace Go.Proofs.YthihppocokkoiaaDoor
set_option linter.unusedVariables false
open Go.Shelf Go.RowKit Go.Lib Go.Sort

/-- the box of the environment, as it stands while the list is sorted -/
def EnvBoxT (eb : Nat) (w : World) : Prop := ∀ n os, TabsU (grow (w.drewN n) os) ∧ (grow (w.drewN n) os).cell? ⟨eb, 0, none⟩ = some (.bool true) ∧ (grow (w.drewN n) os).cell? ⟨eb, 1, none⟩ = some (.slice none 0 0)

set_option maxHeartbeats 1000000 in
theorem closure_ppT (a b : ByteArray) (eb : Nat) (w : World) (i : Nat) (ha : Hid (indexByte a.data.toList 61 = i)) (hia : i + 1 ≤ a.size) (j : Nat) (hb : Hid (indexByte b.data.toList 61 = j)) (hjb : j + 1 ≤ b.size) (sa : a.size ≤ 1073741824) (sb : b.size ≤ 1073741824) (E : EnvBoxT eb w) :
    Calls Tryd.prog 74 #[.string a, .string b, .pointer (some ⟨eb, 0, none⟩)] w fun e w' => e = .returned (.int .i64 (compareBytes (Lib.toUpperD (a.data.toList.take (i + 1))) (Lib.toUpperD (b.data.toList.take (j + 1))))) ∧ ∃ q os', w' = grow (w.drewN q) os' := by
  have mixed : Tryd.prog.follows .mixedOrders = true := by kernel_rfl
  have et := Lib.hid fun n os => (E n os).1
  have e0 := fun n os => (E n os).2.1
  have e1 := fun n os => (E n os).2.2
  clear E
  obtain ⟨p, hp⟩ : ∃ p, p = i + 1 := ⟨_, rfl⟩
  rw [← hp]
  have zp : (i : Int) + 1 = (p : Int) := by omega
  have p1 : (0 : Int) ≤ (p : Int) := by omega
  have p2 : (p : Int) ≤ (a.size : Int) := by omega
  clear hp
  obtain ⟨q, hq⟩ : ∃ q, q = j + 1 := ⟨_, rfl⟩
  rw [← hq]
  have zq : (j : Int) + 1 = (q : Int) := by omega
  have p3 : (0 : Int) ≤ (q : Int) := by omega
  have p4 : (q : Int) ≤ (b.size : Int) := by omega
  clear hq
  obtain ⟨c, hc⟩ : ∃ c, c = compareBytes (Lib.toUpperD (a.data.toList.take p)) (Lib.toUpperD (b.data.toList.take q)) := ⟨_, rfl⟩
  rw [← hc]
  have xa : (a.extract 0 p).data.toList = (a.data.toList.take p) := by first | rfl | (rw [extract_data]; simp)
  have xb : (b.extract 0 q).data.toList = (b.data.toList.take q) := by first | rfl | (rw [extract_data]; simp)
  have za : (a.extract 0 p).size ≤ 1073741824 := by first | (rw [ByteArray.size_extract]; omega) | decide
  have zb : (b.extract 0 q).size ≤ 1073741824 := by first | (rw [ByteArray.size_extract]; omega) | decide
  have CQ : Hid (∀ n os, Calls Tryd.prog 76 #[.agg #[.bool true, .slice none 0 0], .string (a.extract 0 p), .string (b.extract 0 q)] (grow (w.drewN n) os) fun e w' => e = .returned (.int .i64 c) ∧ ∃ k os', w' = grow ((grow (w.drewN n) os).drewN k) os') := Lib.hid fun n os => compare_grownT _ _ _ c za zb (et.out n os) (by show _ = _; first | rw [xa, xb, hc] | rw [xa, hc])
  clear hc xa xb za zb et
  go_enter Tryd.func74, Tryd.ntmps74
  go_wp2_with fail
  refine (Tryd.strings_IndexByte _ _ _).mono ?_
  rintro e w' ⟨rfl, rfl⟩
  rw [show ((61 : Int).toNat.toUInt8 : UInt8) = 61 from rfl, ha.out]
  go_wp2_with fail
  refine (Tryd.strings_IndexByte _ _ _).mono ?_
  rintro e w' ⟨rfl, rfl⟩
  rw [show ((61 : Int).toNat.toUInt8 : UInt8) = 61 from rfl, hb.out]
  go_wp2_with fail
  go_quiet_grown (first | (go_at_call 76; refine Calls.grown_of (CQ.out _ _)))
  go_wp2
  go_ret
  exact ⟨rfl, _, _, rfl⟩

set_option maxHeartbeats 1000000 in
theorem closure_pnT (a b : ByteArray) (eb : Nat) (w : World) (i : Nat) (ha : Hid (indexByte a.data.toList 61 = i)) (hia : i + 1 ≤ a.size) (hb : Hid (indexByte b.data.toList 61 = -1)) (sa : a.size ≤ 1073741824) (sb : b.size ≤ 1073741824) (E : EnvBoxT eb w) :
    Calls Tryd.prog 74 #[.string a, .string b, .pointer (some ⟨eb, 0, none⟩)] w fun e w' => e = .returned (.int .i64 (compareBytes (Lib.toUpperD (a.data.toList.take (i + 1))) (Lib.toUpperD []))) ∧ ∃ q os', w' = grow (w.drewN q) os' := by
  have mixed : Tryd.prog.follows .mixedOrders = true := by kernel_rfl
  have et := Lib.hid fun n os => (E n os).1
  have e0 := fun n os => (E n os).2.1
  have e1 := fun n os => (E n os).2.2
  clear E
  obtain ⟨p, hp⟩ : ∃ p, p = i + 1 := ⟨_, rfl⟩
  rw [← hp]
  have zp : (i : Int) + 1 = (p : Int) := by omega
  have p1 : (0 : Int) ≤ (p : Int) := by omega
  have p2 : (p : Int) ≤ (a.size : Int) := by omega
  clear hp
  obtain ⟨c, hc⟩ : ∃ c, c = compareBytes (Lib.toUpperD (a.data.toList.take p)) (Lib.toUpperD []) := ⟨_, rfl⟩
  rw [← hc]
  have xa : (a.extract 0 p).data.toList = (a.data.toList.take p) := by first | rfl | (rw [extract_data]; simp)
  have xb : ByteArray.empty.data.toList = [] := by first | rfl | (rw [extract_data]; simp)
  have za : (a.extract 0 p).size ≤ 1073741824 := by first | (rw [ByteArray.size_extract]; omega) | decide
  have zb : ByteArray.empty.size ≤ 1073741824 := by first | (rw [ByteArray.size_extract]; omega) | decide
  have CQ : Hid (∀ n os, Calls Tryd.prog 76 #[.agg #[.bool true, .slice none 0 0], .string (a.extract 0 p), .string ByteArray.empty] (grow (w.drewN n) os) fun e w' => e = .returned (.int .i64 c) ∧ ∃ k os', w' = grow ((grow (w.drewN n) os).drewN k) os') := Lib.hid fun n os => compare_grownT _ _ _ c za zb (et.out n os) (by show _ = _; first | rw [xa, xb, hc] | rw [xa, hc])
  clear hc xa xb za zb et
  go_enter Tryd.func74, Tryd.ntmps74
  go_wp2_with fail
  refine (Tryd.strings_IndexByte _ _ _).mono ?_
  rintro e w' ⟨rfl, rfl⟩
  rw [show ((61 : Int).toNat.toUInt8 : UInt8) = 61 from rfl, ha.out]
  go_wp2_with fail
  refine (Tryd.strings_IndexByte _ _ _).mono ?_
  rintro e w' ⟨rfl, rfl⟩
  rw [show ((61 : Int).toNat.toUInt8 : UInt8) = 61 from rfl, hb.out]
  go_wp2_with fail
  go_quiet_grown (first | (go_at_call 76; refine Calls.grown_of (CQ.out _ _)))
  go_wp2
  go_ret
  exact ⟨rfl, _, _, rfl⟩

set_option maxHeartbeats 1000000 in
theorem closure_npT (a b : ByteArray) (eb : Nat) (w : World) (ha : Hid (indexByte a.data.toList 61 = -1)) (j : Nat) (hb : Hid (indexByte b.data.toList 61 = j)) (hjb : j + 1 ≤ b.size) (sa : a.size ≤ 1073741824) (sb : b.size ≤ 1073741824) (E : EnvBoxT eb w) :
    Calls Tryd.prog 74 #[.string a, .string b, .pointer (some ⟨eb, 0, none⟩)] w fun e w' => e = .returned (.int .i64 (compareBytes (Lib.toUpperD []) (Lib.toUpperD (b.data.toList.take (j + 1))))) ∧ ∃ q os', w' = grow (w.drewN q) os' := by
  have mixed : Tryd.prog.follows .mixedOrders = true := by kernel_rfl
  have et := Lib.hid fun n os => (E n os).1
  have e0 := fun n os => (E n os).2.1
  have e1 := fun n os => (E n os).2.2
  clear E
  obtain ⟨q, hq⟩ : ∃ q, q = j + 1 := ⟨_, rfl⟩
  rw [← hq]
  have zq : (j : Int) + 1 = (q : Int) := by omega
  have p3 : (0 : Int) ≤ (q : Int) := by omega
  have p4 : (q : Int) ≤ (b.size : Int) := by omega
  clear hq
  obtain ⟨c, hc⟩ : ∃ c, c = compareBytes (Lib.toUpperD []) (Lib.toUpperD (b.data.toList.take q)) := ⟨_, rfl⟩
  rw [← hc]
  have xa : ByteArray.empty.data.toList = [] := by first | rfl | (rw [extract_data]; simp)
  have xb : (b.extract 0 q).data.toList = (b.data.toList.take q) := by first | rfl | (rw [extract_data]; simp)
  have za : ByteArray.empty.size ≤ 1073741824 := by first | (rw [ByteArray.size_extract]; omega) | decide
  have zb : (b.extract 0 q).size ≤ 1073741824 := by first | (rw [ByteArray.size_extract]; omega) | decide
  have CQ : Hid (∀ n os, Calls Tryd.prog 76 #[.agg #[.bool true, .slice none 0 0], .string ByteArray.empty, .string (b.extract 0 q)] (grow (w.drewN n) os) fun e w' => e = .returned (.int .i64 c) ∧ ∃ k os', w' = grow ((grow (w.drewN n) os).drewN k) os') := Lib.hid fun n os => compare_grownT _ _ _ c za zb (et.out n os) (by show _ = _; first | rw [xa, xb, hc] | rw [xa, hc])
  clear hc xa xb za zb et
  go_enter Tryd.func74, Tryd.ntmps74
  go_wp2_with fail
  refine (Tryd.strings_IndexByte _ _ _).mono ?_
  rintro e w' ⟨rfl, rfl⟩
  rw [show ((61 : Int).toNat.toUInt8 : UInt8) = 61 from rfl, ha.out]
  go_wp2_with fail
  refine (Tryd.strings_IndexByte _ _ _).mono ?_
  rintro e w' ⟨rfl, rfl⟩
  rw [show ((61 : Int).toNat.toUInt8 : UInt8) = 61 from rfl, hb.out]
  go_wp2_with fail
  go_quiet_grown (first | (go_at_call 76; refine Calls.grown_of (CQ.out _ _)))
  go_wp2
  go_ret
  exact ⟨rfl, _, _, rfl⟩

set_option maxHeartbeats 1000000 in
theorem closure_nnT (a b : ByteArray) (eb : Nat) (w : World) (ha : Hid (indexByte a.data.toList 61 = -1)) (hb : Hid (indexByte b.data.toList 61 = -1)) (sa : a.size ≤ 1073741824) (sb : b.size ≤ 1073741824) (E : EnvBoxT eb w) :
    Calls Tryd.prog 74 #[.string a, .string b, .pointer (some ⟨eb, 0, none⟩)] w fun e w' => e = .returned (.int .i64 (compareBytes (Lib.toUpperD []) (Lib.toUpperD []))) ∧ ∃ q os', w' = grow (w.drewN q) os' := by
  have mixed : Tryd.prog.follows .mixedOrders = true := by kernel_rfl
  have et := Lib.hid fun n os => (E n os).1
  have e0 := fun n os => (E n os).2.1
  have e1 := fun n os => (E n os).2.2
  clear E
  obtain ⟨c, hc⟩ : ∃ c, c = compareBytes (Lib.toUpperD []) (Lib.toUpperD []) := ⟨_, rfl⟩
  rw [← hc]
  have xa : ByteArray.empty.data.toList = [] := by first | rfl | (rw [extract_data]; simp)
  have xb : ByteArray.empty.data.toList = [] := by first | rfl | (rw [extract_data]; simp)
  have za : ByteArray.empty.size ≤ 1073741824 := by first | (rw [ByteArray.size_extract]; omega) | decide
  have zb : ByteArray.empty.size ≤ 1073741824 := by first | (rw [ByteArray.size_extract]; omega) | decide
  have CQ : Hid (∀ n os, Calls Tryd.prog 76 #[.agg #[.bool true, .slice none 0 0], .string ByteArray.empty, .string ByteArray.empty] (grow (w.drewN n) os) fun e w' => e = .returned (.int .i64 c) ∧ ∃ k os', w' = grow ((grow (w.drewN n) os).drewN k) os') := Lib.hid fun n os => compare_grownT _ _ _ c za zb (et.out n os) (by show _ = _; first | rw [xa, xb, hc] | rw [xa, hc])
  clear hc xa xb za zb et
  go_enter Tryd.func74, Tryd.ntmps74
  go_wp2_with fail
  refine (Tryd.strings_IndexByte _ _ _).mono ?_
  rintro e w' ⟨rfl, rfl⟩
  rw [show ((61 : Int).toNat.toUInt8 : UInt8) = 61 from rfl, ha.out]
  go_wp2_with fail
  refine (Tryd.strings_IndexByte _ _ _).mono ?_
  rintro e w' ⟨rfl, rfl⟩
  rw [show ((61 : Int).toNat.toUInt8 : UInt8) = 61 from rfl, hb.out]
  go_wp2_with fail
  go_quiet_grown (first | (go_at_call 76; refine Calls.grown_of (CQ.out _ _)))
  go_wp2
  go_ret
  exact ⟨rfl, _, _, rfl⟩

/-- the comparison as a function of two texts -/
def cfET (x y : List UInt8) : Int := compareBytes (Lib.toUpperD (Envp.keyOf x)) (Lib.toUpperD (Envp.keyOf y))

theorem closure_anyT (x y : List UInt8) (eb : Nat) (w : World) (sx : x.length ≤ 1073741824) (sy : y.length ≤ 1073741824) (E : EnvBoxT eb w) :
    Calls Tryd.prog 74 #[encStr x, encStr y, .pointer (some ⟨eb, 0, none⟩)] w fun e w' => e = .returned (.int .i64 (cfET x y)) ∧ ∃ q os', w' = grow (w.drewN q) os' := by
  have ea : (⟨x.toArray⟩ : ByteArray).data.toList = x := rfl
  have eb' : (⟨y.toArray⟩ : ByteArray).data.toList = y := rfl
  have za : (⟨x.toArray⟩ : ByteArray).size = x.length := by simp [ByteArray.size]
  have zb : (⟨y.toArray⟩ : ByteArray).size = y.length := by simp [ByteArray.size]
  unfold cfET
  rcases at_cases x with hx | ⟨i, hx⟩
  · rcases at_cases y with hy | ⟨j, hy⟩
    · rw [key_none hx, key_none hy]
      exact closure_nnT ⟨x.toArray⟩ ⟨y.toArray⟩ eb w hx hy (by omega) (by omega) E
    · rw [key_none hx, (key_some hy).1]
      exact closure_npT ⟨x.toArray⟩ ⟨y.toArray⟩ eb w hx j hy (by have := (key_some hy).2; omega) (by omega) (by omega) E
  · rcases at_cases y with hy | ⟨j, hy⟩
    · rw [(key_some hx).1, key_none hy]
      exact closure_pnT ⟨x.toArray⟩ ⟨y.toArray⟩ eb w i hx (by have := (key_some hx).2; omega) hy (by omega) (by omega) E
    · rw [(key_some hx).1, (key_some hy).1]
      exact closure_ppT ⟨x.toArray⟩ ⟨y.toArray⟩ eb w i hx (by have := (key_some hx).2; omega) j hy (by have := (key_some hy).2; omega) (by omega) (by omega) E
end Go.Proofs.YthihppocokkoiaaDoor
