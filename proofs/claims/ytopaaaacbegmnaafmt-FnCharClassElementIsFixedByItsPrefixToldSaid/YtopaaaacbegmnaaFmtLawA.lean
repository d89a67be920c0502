/-
  THE WALK OF THE LAW FnCharClassCaseTable: it returns true at every text, and nothing that was there has turned.
-/
import Derived.Test.YtopaaaacbegmnaaFmtSub
namespace Go.Proofs.YtopaaaacbegmnaaFmt
set_option linter.unusedVariables false
open Go.RowKit Go.Extern.Stop Go.Stop Go.Extern Go.Lib

/-- true, and the old memory as it was -/
def Yes (w : World) (e : Ending) (w' : World) : Prop := e = .returned (.bool true) ∧ Below w.heap.size w w'

theorem law3_big (s : ByteArray) (w : World) (h : 131072 < s.size) : Calls Tryf.prog 3 #[.string s] w (Yes w) := by
  by_cases h1 : 1048576 < s.size
  · go_enter Tryf.func3, Tryf.ntmps3
    go_wp2_with (go_at_call 5; refine (bytes1_no _ _ h1).mono ?_; rintro e w' ⟨rfl, rfl⟩)
    go_ret
    exact ⟨rfl, Below.refl _ _⟩
  · go_enter Tryf.func3, Tryf.ntmps3
    go_wp2_with (go_at_call 5; refine (bytes1_ok _ _ (by omega)).mono ?_; rintro e w' ⟨rfl, rfl⟩)
    go_ret
    exact ⟨rfl, Below.refl _ _⟩

theorem ne_empty {s : ByteArray} (h : 0 < s.size) : ¬ s = ByteArray.empty := by rintro rfl; exact absurd h (by decide)

theorem law3_empty (w : World) : Calls Tryf.prog 3 #[.string ⟨#[]⟩] w (Yes w) := by
  go_enter Tryf.func3, Tryf.ntmps3
  go_wp2_with (first | (go_at_call 5; refine (bytes1_ok _ _ (by decide)).mono ?_; rintro e w' ⟨rfl, rfl⟩) | (go_at_call 6; refine (zz_noErr (cc_empty _)).mono ?_; rintro e w1 ⟨rfl, hb⟩))
  go_ret
  exact ⟨rfl, hb⟩

theorem law3_plain (s : ByteArray) (w : World) (hs : s.size ≤ 131072) (h0 : 0 < s.size) (h46 : ((s[0].toNat : Int) == 46) = false) (h61 : ((s[0].toNat : Int) == 61) = false) (h58 : ((s[0].toNat : Int) == 58) = false)
    (n46 : ((s[0].toNat : Int) != 46) = true) (n61 : ((s[0].toNat : Int) != 61) = true) (n58 : ((s[0].toNat : Int) != 58) = true) (hp : ((s.extract 0 1).toList == [58]) = false) : Calls Tryf.prog 3 #[.string s] w (Yes w) := by
  have hne := ne_empty h0
  go_enter Tryf.func3, Tryf.ntmps3
  go_wp2_with (first | (go_at_call 5; refine (bytes1_ok _ _ (by omega)).mono ?_; rintro e w' ⟨rfl, rfl⟩) | (go_at_call 6; refine (zz_noErr (cc_plain _ _ (by omega) h0 h46 h61 hp)).mono ?_; rintro e w1 ⟨rfl, hb⟩))
  go_ret
  exact ⟨rfl, hb⟩

set_option maxHeartbeats 400000 in
theorem law3_no46 (F : Interp) (s : ByteArray) (w : World) (hF : F.answers w.tape) (hs : s.size ≤ 131072) (h0 : 0 < s.size) (hd : (s[0].toNat : Int) = 46) (H : Hid (Pl.idx (s.extract 1 s.size) ⟨#[46, 93]⟩ = -1)) (HC : Hid (Pl.closeAt s 46 = -1)) :
    Calls Tryf.prog 3 #[.string s] w (Yes w) := by
  have hne := ne_empty h0
  go_enter Tryf.func3, Tryf.ntmps3
  go_wp2_with (first | (go_at_call 5; refine (bytes1_ok _ _ (by omega)).mono ?_; rintro e w' ⟨rfl, rfl⟩) | (go_at_call 6; refine (zz_err (cc_no46 F _ _ hF (by omega) h0 hd H)).mono ?_; rintro e w1 ⟨a, rfl, hb⟩) | (go_at_call 7; refine (closeAt_any s 46 _ (by omega) (by omega) (by omega)).mono ?_; rintro e w' ⟨rfl, rfl⟩; rw [HC.out]))
  go_ret
  exact ⟨rfl, hb⟩

set_option maxHeartbeats 400000 in
theorem law3_yes46 (F : Interp) (s : ByteArray) (w : World) (hF : F.answers w.tape) (hs : s.size ≤ 131072) (h0 : 0 < s.size) (hd : (s[0].toNat : Int) = 46) (i : Nat) (hi : i + 2 ≤ (s.extract 1 s.size).size) (H : Hid (Pl.idx (s.extract 1 s.size) ⟨#[46, 93]⟩ = i)) (HC : Hid (Pl.closeAt s 46 = (i : Int) + 1)) :
    Calls Tryf.prog 3 #[.string s] w (Yes w) := by
  have hib : (i : Int) ≤ 131072 := by simp at hi; omega
  have hne := ne_empty h0
  go_enter Tryf.func3, Tryf.ntmps3
  go_wp2_with (first | (go_at_call 5; refine (bytes1_ok _ _ (by omega)).mono ?_; rintro e w' ⟨rfl, rfl⟩) | (go_at_call 6; refine (zz_err (cc_yes46 F _ _ hF (by omega) h0 hd i hi H)).mono ?_; rintro e w1 ⟨a, rfl, hb⟩) | (go_at_call 7; refine (closeAt_any s 46 _ (by omega) (by omega) (by omega)).mono ?_; rintro e w' ⟨rfl, rfl⟩; rw [HC.out]))
  go_ret
  exact ⟨rfl, hb⟩

set_option maxHeartbeats 400000 in
theorem law3_no61 (F : Interp) (s : ByteArray) (w : World) (hF : F.answers w.tape) (hs : s.size ≤ 131072) (h0 : 0 < s.size) (hd : (s[0].toNat : Int) = 61) (H : Hid (Pl.idx (s.extract 1 s.size) ⟨#[61, 93]⟩ = -1)) (HC : Hid (Pl.closeAt s 61 = -1)) :
    Calls Tryf.prog 3 #[.string s] w (Yes w) := by
  have hne := ne_empty h0
  go_enter Tryf.func3, Tryf.ntmps3
  go_wp2_with (first | (go_at_call 5; refine (bytes1_ok _ _ (by omega)).mono ?_; rintro e w' ⟨rfl, rfl⟩) | (go_at_call 6; refine (zz_err (cc_no61 F _ _ hF (by omega) h0 hd H)).mono ?_; rintro e w1 ⟨a, rfl, hb⟩) | (go_at_call 7; refine (closeAt_any s 61 _ (by omega) (by omega) (by omega)).mono ?_; rintro e w' ⟨rfl, rfl⟩; rw [HC.out]))
  go_ret
  exact ⟨rfl, hb⟩

set_option maxHeartbeats 400000 in
theorem law3_yes61 (F : Interp) (s : ByteArray) (w : World) (hF : F.answers w.tape) (hs : s.size ≤ 131072) (h0 : 0 < s.size) (hd : (s[0].toNat : Int) = 61) (i : Nat) (hi : i + 2 ≤ (s.extract 1 s.size).size) (H : Hid (Pl.idx (s.extract 1 s.size) ⟨#[61, 93]⟩ = i)) (HC : Hid (Pl.closeAt s 61 = (i : Int) + 1)) :
    Calls Tryf.prog 3 #[.string s] w (Yes w) := by
  have hib : (i : Int) ≤ 131072 := by simp at hi; omega
  have hne := ne_empty h0
  go_enter Tryf.func3, Tryf.ntmps3
  go_wp2_with (first | (go_at_call 5; refine (bytes1_ok _ _ (by omega)).mono ?_; rintro e w' ⟨rfl, rfl⟩) | (go_at_call 6; refine (zz_err (cc_yes61 F _ _ hF (by omega) h0 hd i hi H)).mono ?_; rintro e w1 ⟨a, rfl, hb⟩) | (go_at_call 7; refine (closeAt_any s 61 _ (by omega) (by omega) (by omega)).mono ?_; rintro e w' ⟨rfl, rfl⟩; rw [HC.out]))
  go_ret
  exact ⟨rfl, hb⟩

set_option maxHeartbeats 400000 in
theorem law3_no58 (F : Interp) (s : ByteArray) (w : World) (hF : F.answers w.tape) (hs : s.size ≤ 131072) (h0 : 0 < s.size) (hd : (s[0].toNat : Int) = 58) (hp : ((s.extract 0 1).toList == [58]) = true) (H : Hid (Pl.idx (s.extract 1 s.size) ⟨#[58, 93]⟩ = -1)) (HC : Hid (Pl.closeAt s 58 = -1)) :
    Calls Tryf.prog 3 #[.string s] w (Yes w) := by
  have hne := ne_empty h0
  go_enter Tryf.func3, Tryf.ntmps3
  go_wp2_with (first | (go_at_call 5; refine (bytes1_ok _ _ (by omega)).mono ?_; rintro e w' ⟨rfl, rfl⟩) | (go_at_call 6; refine (zz_err (cc_no58 F _ _ hF (by omega) h0 hd hp H)).mono ?_; rintro e w1 ⟨a, rfl, hb⟩) | (go_at_call 7; refine (closeAt_any s 58 _ (by omega) (by omega) (by omega)).mono ?_; rintro e w' ⟨rfl, rfl⟩; rw [HC.out]))
  go_ret
  exact ⟨rfl, hb⟩

set_option maxHeartbeats 400000 in
theorem law3_bad (F : Interp) (s : ByteArray) (w : World) (hF : F.answers w.tape) (hs : s.size ≤ 131072) (h0 : 0 < s.size) (hd : (s[0].toNat : Int) = 58) (hp : ((s.extract 0 1).toList == [58]) = true) (i : Nat) (hi : i + 2 ≤ (s.extract 1 s.size).size) (hi2 : (i : Int) + 1 ≤ s.size) (H : Hid (Pl.idx (s.extract 1 s.size) ⟨#[58, 93]⟩ = i)) (HC : Hid (Pl.closeAt s 58 = (i : Int) + 1))
    (HB : Hid (s.extract 1 (i + 1) = (s.extract 1 s.size).extract 0 i)) (hn : ∀ l ∈ Pl.classes, ((s.extract 1 (i + 1)).toList == l) = false) :
    Calls Tryf.prog 3 #[.string s] w (Yes w) := by
  have hib : (i : Int) ≤ 131072 := by simp at hi; omega
  have HN := Lib.hid hn
  clear hn
  have hne := ne_empty h0
  go_enter Tryf.func3, Tryf.ntmps3
  go_wp2_with (first | (go_at_call 5; refine (bytes1_ok _ _ (by omega)).mono ?_; rintro e w' ⟨rfl, rfl⟩) | (go_at_call 6; refine (zz_err (cc_bad F _ _ hF (by omega) h0 hd hp i hi H _ HB HN.out)).mono ?_; rintro e w1 ⟨a, rfl, hb⟩) | (go_at_call 7; refine (closeAt_any s 58 _ (by omega) (by omega) (by omega)).mono ?_; rintro e w' ⟨rfl, rfl⟩; rw [HC.out]) | (go_at_call 8; go_must (refine (className_no _ _ HN.out).mono ?_); rintro e w' ⟨rfl, rfl⟩))
  go_ret
  exact ⟨rfl, hb⟩

set_option maxHeartbeats 400000 in
theorem law3_good (s : ByteArray) (w : World) (hs : s.size ≤ 131072) (h0 : 0 < s.size) (hd : (s[0].toNat : Int) = 58) (hp : ((s.extract 0 1).toList == [58]) = true) (i : Nat) (hi : i + 2 ≤ (s.extract 1 s.size).size) (hi2 : (i : Int) + 1 ≤ s.size) (H : Hid (Pl.idx (s.extract 1 s.size) ⟨#[58, 93]⟩ = i)) (HC : Hid (Pl.closeAt s 58 = (i : Int) + 1))
    (HB : Hid (s.extract 1 (i + 1) = (s.extract 1 s.size).extract 0 i)) (l : List UInt8) (hl : l ∈ Pl.classes) (HL : Hid (s.extract 1 (i + 1) = ⟨l.toArray⟩)) :
    Calls Tryf.prog 3 #[.string s] w (Yes w) := by
  have hib : (i : Int) ≤ 131072 := by simp at hi; omega
  have hne := ne_empty h0
  go_enter Tryf.func3, Tryf.ntmps3
  go_wp2_with (first | (go_at_call 5; refine (bytes1_ok _ _ (by omega)).mono ?_; rintro e w' ⟨rfl, rfl⟩) | (go_at_call 6; refine (zz_noErr (cc_good _ _ (by omega) h0 hd hp i hi H _ HB l hl HL.out)).mono ?_; rintro e w1 ⟨rfl, hb⟩) | (go_at_call 7; refine (closeAt_any s 58 _ (by omega) (by omega) (by omega)).mono ?_; rintro e w' ⟨rfl, rfl⟩; rw [HC.out]) | (go_at_call 8; go_must (refine (className_yes _ _ l hl HL.out).mono ?_); rintro e w' ⟨rfl, rfl⟩))
  go_ret
  exact ⟨rfl, hb⟩
end Go.Proofs.YtopaaaacbegmnaaFmt
