/-
  The walks of the text search zzIndex and of zzCut over it. Condition: texts of at most 2 to the 30 bytes, the separator not empty.
-/
import Derived.Test.YtopaaaacbegmnaaFmtRows
import Derived.Test.YtopaaaacbegmnaaFmtFacts
import Derived.Test.YtopaaaacbegmnaaFmtPlain
import Derived.WalkKit
import Derived.WalkSpells
import Derived.Lib.Hide
import Derived.Deep.QuietTactic
import Derived.BigQuiet
namespace Go.Proofs.YtopaaaacbegmnaaFmt
set_option linter.unusedVariables false
open Go.RowKit Go.Extern.Stop Go.Stop Go.Extern Go.Lib

theorem occ_step {s sub : ByteArray} {k : Nat} (hlt : k + sub.size ≤ s.size) (h1 : 1 ≤ sub.size) (hp : ((s.extract k (k + sub.size)).toList == sub.toList) = false)
    (HF : Hid (Pl.firstFrom (Pl.occ s sub) k (s.size + 1 - sub.size - k) = Pl.idx s sub)) : Hid (Pl.firstFrom (Pl.occ s sub) (k + 1) (s.size + 1 - sub.size - (k + 1)) = Pl.idx s sub) := by
  have h := HF.out
  obtain ⟨n, hn⟩ : ∃ n, s.size + 1 - sub.size - k = n + 1 := ⟨s.size - sub.size - k, by omega⟩
  have hn' : s.size + 1 - sub.size - (k + 1) = n := by omega
  rw [hn] at h
  unfold Pl.firstFrom at h
  have hq : Pl.occ s sub k = false := by unfold Pl.occ; rw [← Lib.toList_data, ← Lib.toList_data]; exact hp
  rw [if_neg (by rw [hq]; decide)] at h
  show _ = _
  rw [hn', h]
theorem occ_hit {s sub : ByteArray} {k : Nat} (hlt : k + sub.size ≤ s.size) (h1 : 1 ≤ sub.size) (hp : ((s.extract k (k + sub.size)).toList == sub.toList) = true)
    (HF : Hid (Pl.firstFrom (Pl.occ s sub) k (s.size + 1 - sub.size - k) = Pl.idx s sub)) : Pl.idx s sub = k := by
  have h := HF.out
  obtain ⟨n, hn⟩ : ∃ n, s.size + 1 - sub.size - k = n + 1 := ⟨s.size - sub.size - k, by omega⟩
  rw [hn] at h
  unfold Pl.firstFrom at h
  have hq : Pl.occ s sub k = true := by unfold Pl.occ; rw [← Lib.toList_data, ← Lib.toList_data]; exact hp
  rw [if_pos hq] at h
  exact h.symm
theorem occ_end {s sub : ByteArray} {k : Nat} (hlt : ¬ k + sub.size ≤ s.size) (HF : Hid (Pl.firstFrom (Pl.occ s sub) k (s.size + 1 - sub.size - k) = Pl.idx s sub)) : Pl.idx s sub = -1 := by
  have h := HF.out
  have hn : s.size + 1 - sub.size - k = 0 := by omega
  rw [hn] at h
  exact h.symm
theorem ret_int {k : IntKind} {a b : Int} (h : a = b) : Ending.returned (.int k a) = .returned (.int k b) := by rw [h]

set_option maxHeartbeats 400000 in
theorem zzIndex_any (s sub : ByteArray) (w : World) (hs : s.size ≤ 1073741824) (h1 : 1 ≤ sub.size) (h2 : sub.size ≤ 1073741824) :
    Calls Tryf.prog 14 #[.string s, .string sub] w fun e w' => e = .returned (.int .i64 (Pl.idx s sub)) ∧ w = w' := by
  go_enter Tryf.func14, Tryf.ntmps14
  go_wp2
  go_loop [5] (fun i => ∃ k : Nat, k ≤ s.size + 1 - sub.size ∧ i = .int .i64 k ∧ Hid (Pl.firstFrom (Pl.occ s sub) k (s.size + 1 - sub.size - k) = Pl.idx s sub)) (fun i => s.size + 1 - (intOf i).toNat)
  case atStart => exact ⟨0, Nat.zero_le _, rfl, rfl⟩
  case round =>
    obtain ⟨k, hk, rfl, HF⟩ := hrel
    by_cases hlt : k + sub.size ≤ s.size
    · cases hp : ((s.extract k (k + sub.size)).toList == sub.toList) with
      | true =>
        have H := Lib.hid (occ_hit hlt h1 hp HF)
        go_wp2
        go_ret
        exact ⟨ret_int H.out.symm, rfl⟩
      | false =>
        have H := occ_step hlt h1 hp HF
        go_wp2
        go_round
        case rel => exact ⟨k + 1, by omega, by go_num, H⟩
        case measure => simp [intOf]; omega
    · have H := Lib.hid (occ_end hlt HF)
      go_wp2
      go_ret
      exact ⟨ret_int H.out.symm, rfl⟩

set_option maxHeartbeats 400000 in
theorem zzCut_yes (s sub : ByteArray) (w : World) (i : Nat) (hs : s.size ≤ 1073741824) (h1 : 1 ≤ sub.size) (h2 : sub.size ≤ 1073741824) (hi : i + sub.size ≤ s.size) (H : Hid (Pl.idx s sub = i)) :
    Calls Tryf.prog 11 #[.string s, .string sub] w fun e w' => e = .returned (.tuple #[.string (s.extract 0 i), .string (s.extract (i + sub.size) s.size), .bool true]) ∧ ∃ n, w' = w.drewN n := by
  go_enter Tryf.func11, Tryf.ntmps11
  go_wp2_with (go_at_call 14; refine (zzIndex_any _ _ _ hs h1 h2).mono ?_; rintro e w' ⟨rfl, rfl⟩; rw [H.out])
  have e1 : IntKind.i64.wrap ((i : Int) + (sub.size : Int)) = (i : Int) + (sub.size : Int) := by rw [IntKind.wrap_i64]; omega
  have e2 : (0 : Int) ≤ (i : Int) + (sub.size : Int) := by omega
  have e3 : ((i : Int) + (sub.size : Int)).toNat = i + sub.size := by omega
  have e4 : (i : Int) + (sub.size : Int) ≤ (s.size : Int) := by omega
  have e5 : (i : Int) ≤ (s.size : Int) := by omega
  go_quiet (fail)
  clear e1 e3
  go_wp2
  go_ret3
  exact ⟨rfl, _, rfl⟩

set_option maxHeartbeats 400000 in
theorem zzCut_no (s sub : ByteArray) (w : World) (hs : s.size ≤ 1073741824) (h1 : 1 ≤ sub.size) (h2 : sub.size ≤ 1073741824) (H : Hid (Pl.idx s sub = -1)) :
    Calls Tryf.prog 11 #[.string s, .string sub] w fun e w' => e = .returned (.tuple #[.string s, .string ⟨#[]⟩, .bool false]) ∧ w = w' := by
  go_enter Tryf.func11, Tryf.ntmps11
  go_wp2_with (go_at_call 14; refine (zzIndex_any _ _ _ hs h1 h2).mono ?_; rintro e w' ⟨rfl, rfl⟩; rw [H.out])
  go_ret3
  exact ⟨rfl, rfl⟩
/-- the same, the two pieces under names -/
theorem zzCut_named (s sub : ByteArray) (w : World) (i : Nat) (hs : s.size ≤ 1073741824) (h1 : 1 ≤ sub.size) (h2 : sub.size ≤ 1073741824) (hi : i + sub.size ≤ s.size) (H : Hid (Pl.idx s sub = i)) (b a : ByteArray)
    (hb : Hid (b = s.extract 0 i)) (ha : Hid (a = s.extract (i + sub.size) s.size)) :
    Calls Tryf.prog 11 #[.string s, .string sub] w fun e w' => e = .returned (.tuple #[.string b, .string a, .bool true]) ∧ ∃ n, w' = w.drewN n := by
  rw [hb.out, ha.out]
  exact zzCut_yes s sub w i hs h1 h2 hi H
end Go.Proofs.YtopaaaacbegmnaaFmt
