/-
  THE WALKS of what the two laws call beside charClass: the bounds on lengths, the search for the closing pair of bytes, the table of class names.
-/
import Derived.Test.YtopaaaacbegmnaaFmtCc
import Derived.Test.YtopaaaacbegmnaaFmtPlain2
namespace Go.Proofs.YtopaaaacbegmnaaFmt
set_option linter.unusedVariables false
open Go.RowKit Go.Extern.Stop Go.Stop Go.Extern Go.Lib

theorem bytes1_ok (s : ByteArray) (w : World) (h : s.size ≤ 1048576) : Calls Tryf.prog 5 #[.string s] w fun e w' => e = .returned (.bool true) ∧ w = w' := by
  go_enter Tryf.func5, Tryf.ntmps5
  go_wp2
  go_ret
  exact ⟨rfl, rfl⟩
theorem bytes1_no (s : ByteArray) (w : World) (h : 1048576 < s.size) : Calls Tryf.prog 5 #[.string s] w fun e w' => e = .returned (.bool false) ∧ w = w' := by
  go_enter Tryf.func5, Tryf.ntmps5
  go_wp2
  go_ret
  exact ⟨rfl, rfl⟩
theorem bytes2_ok (s t : ByteArray) (w : World) (h : s.size + t.size ≤ 1048576) : Calls Tryf.prog 9 #[.string s, .string t] w fun e w' => e = .returned (.bool true) ∧ w = w' := by
  go_enter Tryf.func9, Tryf.ntmps9
  go_wp2
  go_ret
  exact ⟨rfl, rfl⟩
theorem bytes2_no (s t : ByteArray) (w : World) (hs : s.size ≤ maxLen) (ht : t.size ≤ maxLen) (h : 1048576 < s.size + t.size) : Calls Tryf.prog 9 #[.string s, .string t] w fun e w' => e = .returned (.bool false) ∧ w = w' := by
  unfold maxLen at hs ht
  by_cases h1 : 1048576 < s.size
  · go_enter Tryf.func9, Tryf.ntmps9
    go_wp2
    go_ret
    exact ⟨rfl, rfl⟩
  · by_cases h2 : 1048576 < t.size
    · go_enter Tryf.func9, Tryf.ntmps9
      go_wp2
      go_ret
      exact ⟨rfl, rfl⟩
    · go_enter Tryf.func9, Tryf.ntmps9
      go_wp2
      go_ret
      exact ⟨rfl, rfl⟩

theorem zz_err {s : ByteArray} {n : Int} {w : World} (h : Calls Tryf.prog 10 #[.string s] w (Err n w)) : Calls Tryf.prog 6 #[.string s] w (Err n w) := by
  have H := Lib.hid h
  clear h
  go_enter Tryf.func6, Tryf.ntmps6
  go_wp2_with (go_at_call 10; refine H.out.mono ?_; rintro e w' ⟨a, rfl, hb⟩)
  go_ret2
  exact ⟨_, rfl, hb⟩
theorem zz_noErr {s : ByteArray} {n : Int} {w : World} (h : Calls Tryf.prog 10 #[.string s] w (NoErr n w)) : Calls Tryf.prog 6 #[.string s] w (NoErr n w) := by
  have H := Lib.hid h
  clear h
  go_enter Tryf.func6, Tryf.ntmps6
  go_wp2_with (go_at_call 10; refine H.out.mono ?_; rintro e w' ⟨rfl, hb⟩)
  go_ret2
  exact ⟨rfl, hb⟩

theorem shut_step {s : ByteArray} {d : Int} {k : Nat} (hlt : k + 1 < s.size) (hp : Pl.shut s d k = false)
    (HF : Hid (Pl.firstFrom (Pl.shut s d) k (s.size - 1 - k) = Pl.closeAt s d)) : Hid (Pl.firstFrom (Pl.shut s d) (k + 1) (s.size - 1 - (k + 1)) = Pl.closeAt s d) := by
  have h := HF.out
  obtain ⟨n, hn⟩ : ∃ n, s.size - 1 - k = n + 1 := ⟨s.size - 2 - k, by omega⟩
  have hn' : s.size - 1 - (k + 1) = n := by omega
  rw [hn] at h
  unfold Pl.firstFrom at h
  rw [if_neg (by rw [hp]; decide)] at h
  show _ = _
  rw [hn', h]
theorem shut_hit {s : ByteArray} {d : Int} {k : Nat} (hlt : k + 1 < s.size) (hp : Pl.shut s d k = true)
    (HF : Hid (Pl.firstFrom (Pl.shut s d) k (s.size - 1 - k) = Pl.closeAt s d)) : Pl.closeAt s d = k := by
  have h := HF.out
  obtain ⟨n, hn⟩ : ∃ n, s.size - 1 - k = n + 1 := ⟨s.size - 2 - k, by omega⟩
  rw [hn] at h
  unfold Pl.firstFrom at h
  rw [if_pos hp] at h
  exact h.symm
theorem shut_end {s : ByteArray} {d : Int} {k : Nat} (hlt : ¬ k + 1 < s.size)
    (HF : Hid (Pl.firstFrom (Pl.shut s d) k (s.size - 1 - k) = Pl.closeAt s d)) : Pl.closeAt s d = -1 := by
  have h := HF.out
  rw [show s.size - 1 - k = 0 from by omega] at h
  exact h.symm
theorem getD_byte (s : ByteArray) (k : Nat) (h : k < s.size) : s.data.toList.getD k 0 = s[k] := by
  have hl : s.data.toList.length = s.size := by simp
  rw [List.getD_eq_getElem?_getD, List.getElem?_eq_getElem (by omega)]; rfl

set_option maxHeartbeats 800000 in
theorem closeAt_any (s : ByteArray) (d : Int) (w : World) (hs : s.size ≤ 1073741824) (hd0 : 0 ≤ d) (hd1 : d < 256) :
    Calls Tryf.prog 7 #[.string s, .int .u8 d] w fun e w' => e = .returned (.int .i64 (Pl.closeAt s d)) ∧ w = w' := by
  go_enter Tryf.func7, Tryf.ntmps7
  go_wp2
  go_loop [5] (fun i => ∃ k : Nat, 1 ≤ k ∧ k ≤ s.size + 1 ∧ i = .int .i64 k ∧ Hid (Pl.firstFrom (Pl.shut s d) k (s.size - 1 - k) = Pl.closeAt s d)) (fun i => s.size + 2 - (intOf i).toNat)
  case atStart => exact ⟨1, by omega, by omega, rfl, rfl⟩
  case round =>
    obtain ⟨k, hk0, hk, rfl, HF⟩ := hrel
    by_cases hlt : k + 1 < s.size
    · have hb1 := getD_byte s k (by omega)
      have hb2 := getD_byte s (k + 1) hlt
      have hsh : Pl.shut s d k = ((((s[k].toNat : Nat) : Int) == d) && (((s[k + 1].toNat : Nat) : Int) == 93)) := by unfold Pl.shut; rw [hb1, hb2]
      clear hb1 hb2
      cases hA : (((s[k].toNat : Nat) : Int) == d) with
      | false =>
        have H := shut_step hlt (by rw [hsh, hA]; rfl) HF
        clear hsh
        go_wp2
        go_round
        case rel => exact ⟨k + 1, by omega, by omega, by go_num, H⟩
        case measure => simp [intOf]; omega
      | true =>
        cases hB : (((s[k + 1].toNat : Nat) : Int) == 93) with
        | false =>
          have H := shut_step hlt (by rw [hsh, hA, hB]; rfl) HF
          clear hsh
          go_wp2
          go_round
          case rel => exact ⟨k + 1, by omega, by omega, by go_num, H⟩
          case measure => simp [intOf]; omega
        | true =>
          have H := Lib.hid (shut_hit hlt (by rw [hsh, hA, hB]; rfl) HF)
          clear hsh
          go_wp2
          go_ret
          exact ⟨ret_int H.out.symm, rfl⟩
    · have H := Lib.hid (shut_end hlt HF)
      go_wp2
      go_ret
      exact ⟨ret_int H.out.symm, rfl⟩

set_option maxHeartbeats 800000 in
theorem className_no (b : ByteArray) (w : World) (hn : ∀ l ∈ Pl.classes, (b.toList == l) = false) : Calls Tryf.prog 8 #[.string b] w fun e w' => e = .returned (.bool false) ∧ w = w' := by
  have n0 : (b.toList == [97, 108, 110, 117, 109]) = false := hn _ (by unfold Pl.classes; simp)
  have n1 : (b.toList == [97, 108, 112, 104, 97]) = false := hn _ (by unfold Pl.classes; simp)
  have n2 : (b.toList == [97, 115, 99, 105, 105]) = false := hn _ (by unfold Pl.classes; simp)
  have n3 : (b.toList == [98, 108, 97, 110, 107]) = false := hn _ (by unfold Pl.classes; simp)
  have n4 : (b.toList == [99, 110, 116, 114, 108]) = false := hn _ (by unfold Pl.classes; simp)
  have n5 : (b.toList == [100, 105, 103, 105, 116]) = false := hn _ (by unfold Pl.classes; simp)
  have n6 : (b.toList == [103, 114, 97, 112, 104]) = false := hn _ (by unfold Pl.classes; simp)
  have n7 : (b.toList == [108, 111, 119, 101, 114]) = false := hn _ (by unfold Pl.classes; simp)
  have n8 : (b.toList == [112, 114, 105, 110, 116]) = false := hn _ (by unfold Pl.classes; simp)
  have n9 : (b.toList == [112, 117, 110, 99, 116]) = false := hn _ (by unfold Pl.classes; simp)
  have n10 : (b.toList == [115, 112, 97, 99, 101]) = false := hn _ (by unfold Pl.classes; simp)
  have n11 : (b.toList == [117, 112, 112, 101, 114]) = false := hn _ (by unfold Pl.classes; simp)
  have n12 : (b.toList == [119, 111, 114, 100]) = false := hn _ (by unfold Pl.classes; simp)
  have n13 : (b.toList == [120, 100, 105, 103, 105, 116]) = false := hn _ (by unfold Pl.classes; simp)
  clear hn
  go_enter Tryf.func8, Tryf.ntmps8
  go_wp2
  go_ret
  exact ⟨rfl, rfl⟩

set_option maxHeartbeats 800000 in
theorem className_yes (b : ByteArray) (w : World) (l : List UInt8) (hl : l ∈ Pl.classes) (hbl : b = ⟨l.toArray⟩) : Calls Tryf.prog 8 #[.string b] w fun e w' => e = .returned (.bool true) ∧ w = w' := by
  unfold Pl.classes at hl
  simp only [List.mem_cons, List.not_mem_nil, or_false] at hl
  rcases hl with rfl | rfl | rfl | rfl | rfl | rfl | rfl | rfl | rfl | rfl | rfl | rfl | rfl | rfl
  all_goals
    subst hbl
    go_enter Tryf.func8, Tryf.ntmps8
    go_wp2
    go_ret
    exact ⟨rfl, rfl⟩
end Go.Proofs.YtopaaaacbegmnaaFmt
