/-
  The walk of FnSpaceWritesOneBlankAndMarksWritten. Conditions: those in each theorem.
-/
import Derived.Test.YtonhphjejlidiaaNs
namespace Go.Proofs.Ytonhphjejlidiaa
set_option linter.unusedVariables false
open Go.Shelf Go.RowKit Go.Lib

/-- the frame of a law that made its own printer -/
theorem FrS.below {B b k r p : Nat} {v v' : Value} {w w1 w2 : World} (h : Below B w w1) (f : FrS (S4 b k r p) v v' w1 w2) (hb : B ≤ b) (hk : B ≤ k) (hr : B ≤ r) (hp : B ≤ p) (ho : ∀ g, v.ownBlock = some g → B ≤ g) (hB : B ≤ w.heap.size) : Below B w w2 :=
  ⟨f.os.trans h.os, f.tape.trans h.tape, f.output.trans h.output, Nat.le_trans h.size f.size, fun i hi => (f.block i (Nat.lt_of_lt_of_le (Nat.lt_of_lt_of_le hi hB) h.size) (by rintro ((e | e | e) | e) <;> omega) (fun e => by have := ho i e; omega)).trans (h.block i hi)⟩

/-- a step of a law over its one printer -/
structure One (w : World) (k r p tw : Nat) (kp : Bool) (out : List UInt8) (f : PF) (v : Value) (W : World) : Prop where
  ps : PS w.heap.size w.heap.size k r p tw kp out f v W
  below : Below w.heap.size w W
theorem One.step {w : World} {k r p tw : Nat} {kp : Bool} {out out2 : List UInt8} {f f2 : PF} {v v' : Value} {W W2 : World} (h : One w k r p tw kp out f v W) (h1 : PS w.heap.size w.heap.size k r p tw kp out2 f2 v' W2) (h2 : FrS (S4 w.heap.size k r p) v v' W W2) : One w k r p tw kp out2 f2 v' W2 := by
  obtain ⟨fl, pend, rc, ho, hb⟩ := h.ps.bs
  exact ⟨h1, FrS.below h.below h2 hb.lb hb.lk hb.lr h.ps.lp hb.lo (Nat.le_refl _)⟩

set_option maxRecDepth 20000 in
set_option maxHeartbeats 8000000 in
theorem law4' (kp : Bool) (s : ByteArray) (n : Nat) (hn : n ≤ 255) (w : World) :
    Calls Try.prog 4 #[.bool kp, .string s, .int .u8 n] w fun e w' => e = .returned (.bool true) ∧ Below w.heap.size w w' := by
  have hni : (n : Int) ≤ 255 := by omega
  by_cases c1 : (1048576 : Int) < (s.size : Int)
  · go_enter Try.func4, Try.ntmps4
    go_wp2
    go_ret
    exact ⟨rfl, Below.refl _ _⟩
  by_cases c2 : (65536 : Int) < (s.size : Int)
  · go_enter Try.func4, Try.ntmps4
    go_wp2
    go_ret
    exact ⟨rfl, Below.refl _ _⟩
  by_cases c3 : (2 : Int) < (n : Int)
  · go_enter Try.func4, Try.ntmps4
    go_wp2
    go_ret
    exact ⟨rfl, Below.refl _ _⟩
  have h3 : n ≤ 2 := by omega
  go_enter Try.func4, Try.ntmps4
  have qs : (s.data.toList ++ [32] == (s ++ { data := #[32] }).toList) = true := by simp [ByteArray.toList_eq]
  have hcol : ((fun m => { stepL kp (readyF kp 0) s.data.toList with ws := m }) n).col ≤ 1073741824 := by
    have := stepL_col (readyF kp 0) s.data.toList s.size (by simp)
    cases kp
    · show 0 ≤ _; omega
    · exact Nat.le_trans this (by show 1 + 1 + s.size ≤ _; omega)
  go_wp2_with (first | (go_at_call 16; go_in) | (go_at_call 17; refine (new17 kp 0 w).mono ?_; rintro e w1 ⟨k, r, p, tw, rfl, hp, hbl⟩; have O1 := Lib.hid (One.mk hp hbl); clear hp hbl) | (go_at_call 18; refine (write18 w.heap.size w.heap.size k r p tw kp _ _ _ s w1 O1.out.ps (by simp; omega) (by cases kp <;> simp [readyF, wresetF, resetF, zeroF] <;> omega)).mono ?_; rintro e w2 ⟨rfl, v2, t1, t2⟩; have O2 := Lib.hid (O1.out.step t1 t2); clear t1 t2 O1) | (go_at_call 19; refine (set19 w.heap.size w.heap.size k r p tw kp _ _ _ n w2 O2.out.ps h3).mono ?_; rintro e w3 ⟨rfl, v3, t1, t2⟩; have O3 := Lib.hid (O2.out.step t1 t2); clear t1 t2 O2) | (go_at_call 20; refine (call20 w.heap.size w.heap.size k r p tw kp _ _ _ w3 O3.out.ps (by simp; omega) (hcol)).mono ?_; rintro e w4 ⟨rfl, v4, t1, t2⟩; have O4 := Lib.hid (O3.out.step t1 t2); clear t1 t2 O3) | (go_at_call 21; refine (want21 w.heap.size w.heap.size k r p tw kp _ _ _ w4 O4.out.ps (Nat.le_refl 2)).mono ?_; rintro e w5 ⟨rfl, hw5⟩; rw [hw5]; clear hw5) | (go_at_call 22; refine (flush22 w.heap.size w.heap.size k r p tw kp _ _ _ w4 O4.out.ps (by simp; omega)).mono ?_; rintro e w6 ⟨rfl, v6, t1, t2⟩; have O6 := Lib.hid (O4.out.step t1 t2); clear t1 t2 O4))
  go_ret
  exact ⟨rfl, O6.out.below⟩

theorem wf_u8 {x : Int} (h : (Lit.int .u8 x).wf = true) : ∃ n : Nat, x = n ∧ n ≤ 255 := by
  have h2 : (decide (IntKind.min .u8 ≤ x) && decide (x ≤ IntKind.max .u8)) = true := h
  rw [show IntKind.min .u8 = 0 by decide, show IntKind.max .u8 = 255 by decide, Bool.and_eq_true, decide_eq_true_eq, decide_eq_true_eq] at h2
  exact ⟨x.toNat, by omega, by omega⟩
theorem wf_u32 {x : Int} (h : (Lit.int .u32 x).wf = true) : ∃ n : Nat, x = n ∧ n ≤ 4294967295 := by
  have h2 : (decide (IntKind.min .u32 ≤ x) && decide (x ≤ IntKind.max .u32)) = true := h
  rw [show IntKind.min .u32 = 0 by decide, show IntKind.max .u32 = 4294967295 by decide, Bool.and_eq_true, decide_eq_true_eq, decide_eq_true_eq] at h2
  exact ⟨x.toNat, by omega, by omega⟩
theorem wf_u64 {x : Int} (h : (Lit.int .u64 x).wf = true) : ∃ n : Nat, x = n ∧ n ≤ 18446744073709551615 := by
  have h2 : (decide (IntKind.min .u64 ≤ x) && decide (x ≤ IntKind.max .u64)) = true := h
  rw [show IntKind.min .u64 = 0 by decide, show IntKind.max .u64 = 18446744073709551615 by decide, Bool.and_eq_true, decide_eq_true_eq, decide_eq_true_eq] at h2
  exact ⟨x.toNat, by omega, by omega⟩
theorem law4 (kp : Bool) (s : ByteArray) (x : Int) (hx : (Lit.int .u8 x).wf = true) (w : World) :
    Calls Try.prog 4 #[.bool kp, .string s, .int .u8 x] w fun e w' => e = .returned (.bool true) ∧ Below w.heap.size w w' := by
  obtain ⟨n, rfl, hn⟩ := wf_u8 hx
  exact law4' kp s n hn w
end Go.Proofs.Ytonhphjejlidiaa
