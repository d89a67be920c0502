/-
  THE WALK OF charClass, one theorem a way: what it hands back and whether an error rides with it. Conditions: the text has at most 2^30 bytes.
-/
import Derived.Test.YtopaaaacbegmnaaFmtCut
import Derived.WalkSmall
import Derived.Deep.DeepMust
namespace Go.Proofs.YtopaaaacbegmnaaFmt
set_option linter.unusedVariables false
open Go.RowKit Go.Extern.Stop Go.Stop Go.Extern Go.Lib

/-- charClass ends with n and an error, and no error. -/
def Err (n : Int) (w : World) (e : Ending) (w' : World) : Prop := ∃ a, e = .returned (.tuple #[.int .i64 n, .iface 38 (.pointer (some a))]) ∧ Below w.heap.size w w'
def NoErr (n : Int) (w : World) (e : Ending) (w' : World) : Prop := e = .returned (.tuple #[.int .i64 n, .nilIface]) ∧ Below w.heap.size w w'

theorem size_tail {s : ByteArray} (h : s.size ≤ 1073741824) : (s.extract 1 s.size).size ≤ 1073741824 := by simp; omega
theorem bel_drewN {w w1 : World} (h : ∃ n, w1 = w.drewN n) : Below w.heap.size w w1 := by
  obtain ⟨n, rfl⟩ := h
  induction n with
  | zero => exact Below.refl _ _
  | succ n ih => exact ih.drew
theorem answers_drewN {F : Interp} {w w1 : World} (hF : F.answers w.tape) (h : ∃ n, w1 = w.drewN n) : ∀ i name reading k range, w1.tape i (.extern (word name reading k) range) = F name reading k := by
  have e : w1.tape = w.tape := (bel_drewN h).tape
  rw [e]; exact hF

set_option maxHeartbeats 400000 in
theorem cc_empty (w : World) : Calls Tryf.prog 10 #[.string ⟨#[]⟩] w (NoErr 0 w) := by
  go_enter Tryf.func10, Tryf.ntmps10
  go_wp2
  go_ret2
  exact ⟨rfl, Below.refl _ _⟩

set_option maxHeartbeats 400000 in
theorem cc_plain (s : ByteArray) (w : World) (hs : s.size ≤ 1073741824) (h0 : 0 < s.size) (h46 : ((s[0].toNat : Int) == 46) = false) (h61 : ((s[0].toNat : Int) == 61) = false) (h58 : ((s.extract 0 1).toList == [58]) = false) :
    Calls Tryf.prog 10 #[.string s] w (NoErr 0 w) := by
  go_enter Tryf.func10, Tryf.ntmps10
  go_wp2
  go_ret2
  exact ⟨rfl, Below.refl _ _⟩

set_option maxHeartbeats 800000 in
theorem cc_no46 (F : Interp) (s : ByteArray) (w : World) (hF : F.answers w.tape) (hs : s.size ≤ 1073741824) (h0 : 0 < s.size) (hd : (s[0].toNat : Int) = 46) (H : Hid (Pl.idx (s.extract 1 s.size) ⟨#[46, 93]⟩ = -1)) :
    Calls Tryf.prog 10 #[.string s] w (Err 0 w) := by
  have hF' : ∀ i name reading k range, w.tape i (.extern (word name reading k) range) = F name reading k := hF
  go_enter Tryf.func10, Tryf.ntmps10
  go_wp2_with (first | (go_at_call 11; refine (zzCut_no _ _ _ (size_tail hs) (by decide) (by decide) H).mono ?_; rintro e w' ⟨rfl, rfl⟩) | go_in)
  all_goals go_ret2
  all_goals exact ⟨_, rfl, by repeat (first | exact Below.refl _ _ | refine Below.drew ?_ | refine Below.alloc ?_ (by simp) _)⟩

set_option maxHeartbeats 800000 in
theorem cc_yes46 (F : Interp) (s : ByteArray) (w : World) (hF : F.answers w.tape) (hs : s.size ≤ 1073741824) (h0 : 0 < s.size) (hd : (s[0].toNat : Int) = 46) (i : Nat) (hi : i + 2 ≤ (s.extract 1 s.size).size) (H : Hid (Pl.idx (s.extract 1 s.size) ⟨#[46, 93]⟩ = i)) :
    Calls Tryf.prog 10 #[.string s] w (Err ((i : Int) + 3) w) := by
  have hF' : ∀ i name reading k range, w.tape i (.extern (word name reading k) range) = F name reading k := hF
  obtain ⟨b, hb⟩ : ∃ b, b = (s.extract 1 s.size).extract 0 i := ⟨_, rfl⟩
  have hbs : (b.size : Int) = (i : Int) := by rw [hb]; simp at hi ⊢; omega
  have hib : (i : Int) ≤ 1073741824 := by simp at hi; omega
  have HB := Lib.hid hb
  clear hb
  go_enter Tryf.func10, Tryf.ntmps10
  go_wp2_with (first | (go_at_call 11; go_must (refine (zzCut_named _ _ _ i (size_tail hs) (by decide) (by decide) (by exact hi) H b _ HB rfl).mono ?_); rintro e w1 ⟨rfl, hq⟩; have hF1 := answers_drewN hF hq; have hw1 := bel_drewN hq; have HQ := Lib.hid hq; clear hq) | go_in)
  all_goals go_ret2
  all_goals exact ⟨_, rfl, by repeat (first | exact hw1 | refine Below.drew ?_ | refine Below.alloc ?_ (by have := hw1.size; simp; omega) _)⟩

set_option maxHeartbeats 800000 in
theorem cc_no61 (F : Interp) (s : ByteArray) (w : World) (hF : F.answers w.tape) (hs : s.size ≤ 1073741824) (h0 : 0 < s.size) (hd : (s[0].toNat : Int) = 61) (H : Hid (Pl.idx (s.extract 1 s.size) ⟨#[61, 93]⟩ = -1)) :
    Calls Tryf.prog 10 #[.string s] w (Err 0 w) := by
  have hF' : ∀ i name reading k range, w.tape i (.extern (word name reading k) range) = F name reading k := hF
  go_enter Tryf.func10, Tryf.ntmps10
  go_wp2_with (first | (go_at_call 11; refine (zzCut_no _ _ _ (size_tail hs) (by decide) (by decide) H).mono ?_; rintro e w' ⟨rfl, rfl⟩) | go_in)
  all_goals go_ret2
  all_goals exact ⟨_, rfl, by repeat (first | exact Below.refl _ _ | refine Below.drew ?_ | refine Below.alloc ?_ (by simp) _)⟩

set_option maxHeartbeats 800000 in
theorem cc_yes61 (F : Interp) (s : ByteArray) (w : World) (hF : F.answers w.tape) (hs : s.size ≤ 1073741824) (h0 : 0 < s.size) (hd : (s[0].toNat : Int) = 61) (i : Nat) (hi : i + 2 ≤ (s.extract 1 s.size).size) (H : Hid (Pl.idx (s.extract 1 s.size) ⟨#[61, 93]⟩ = i)) :
    Calls Tryf.prog 10 #[.string s] w (Err ((i : Int) + 3) w) := by
  have hF' : ∀ i name reading k range, w.tape i (.extern (word name reading k) range) = F name reading k := hF
  obtain ⟨b, hb⟩ : ∃ b, b = (s.extract 1 s.size).extract 0 i := ⟨_, rfl⟩
  have hbs : (b.size : Int) = (i : Int) := by rw [hb]; simp at hi ⊢; omega
  have hib : (i : Int) ≤ 1073741824 := by simp at hi; omega
  have HB := Lib.hid hb
  clear hb
  go_enter Tryf.func10, Tryf.ntmps10
  go_wp2_with (first | (go_at_call 11; go_must (refine (zzCut_named _ _ _ i (size_tail hs) (by decide) (by decide) (by exact hi) H b _ HB rfl).mono ?_); rintro e w1 ⟨rfl, hq⟩; have hF1 := answers_drewN hF hq; have hw1 := bel_drewN hq; have HQ := Lib.hid hq; clear hq) | go_in)
  all_goals go_ret2
  all_goals exact ⟨_, rfl, by repeat (first | exact hw1 | refine Below.drew ?_ | refine Below.alloc ?_ (by have := hw1.size; simp; omega) _)⟩

set_option maxHeartbeats 800000 in
theorem cc_no58 (F : Interp) (s : ByteArray) (w : World) (hF : F.answers w.tape) (hs : s.size ≤ 1073741824) (h0 : 0 < s.size) (hd : (s[0].toNat : Int) = 58) (hp : ((s.extract 0 1).toList == [58]) = true) (H : Hid (Pl.idx (s.extract 1 s.size) ⟨#[58, 93]⟩ = -1)) :
    Calls Tryf.prog 10 #[.string s] w (Err 0 w) := by
  have hF' : ∀ i name reading k range, w.tape i (.extern (word name reading k) range) = F name reading k := hF
  go_enter Tryf.func10, Tryf.ntmps10
  go_wp2_with (first | (go_at_call 11; refine (zzCut_no _ _ _ (size_tail hs) (by decide) (by decide) H).mono ?_; rintro e w' ⟨rfl, rfl⟩) | go_in)
  all_goals go_ret2
  all_goals exact ⟨_, rfl, by repeat (first | exact Below.refl _ _ | refine Below.drew ?_ | refine Below.alloc ?_ (by simp) _)⟩

set_option maxHeartbeats 1600000 in
theorem cc_bad (F : Interp) (s : ByteArray) (w : World) (hF : F.answers w.tape) (hs : s.size ≤ 1073741824) (h0 : 0 < s.size) (hd : (s[0].toNat : Int) = 58) (hp : ((s.extract 0 1).toList == [58]) = true) (i : Nat) (hi : i + 2 ≤ (s.extract 1 s.size).size) (H : Hid (Pl.idx (s.extract 1 s.size) ⟨#[58, 93]⟩ = i))
    (b : ByteArray) (HB : Hid (b = (s.extract 1 s.size).extract 0 i)) (hn : ∀ l ∈ Pl.classes, (b.toList == l) = false) :
    Calls Tryf.prog 10 #[.string s] w (Err ((i : Int) + 3) w) := by
  have hF' : ∀ i name reading k range, w.tape i (.extern (word name reading k) range) = F name reading k := hF
  have hbs : (b.size : Int) = (i : Int) := by rw [HB.out]; simp at hi ⊢; omega
  have hib : (i : Int) ≤ 1073741824 := by simp at hi; omega
  have n0 : (b.toList == [97, 108, 110, 117, 109]) = false := hn _ (by unfold Pl.classes; simp)
  have n1 : (b.toList == [97, 108, 112, 104, 97]) = false := hn _ (by unfold Pl.classes; simp)
  have n2 : (b.toList == [97, 115, 99, 105, 105]) = false := hn _ (by unfold Pl.classes; simp)
  have n3 : (b.toList == [98, 108, 97, 110, 107]) = false := hn _ (by unfold Pl.classes; simp)
  have n4 : (b.toList == [99, 110, 116, 114, 108]) = false := hn _ (by unfold Pl.classes; simp)
  have n5 : (b.toList == [100, 105, 103, 105, 116]) = false := hn _ (by unfold Pl.classes; simp)
  have n6 : (b.toList == [103, 114, 97, 112, 104]) = false := hn _ (by unfold Pl.classes; simp)
  have n7 : (b.toList == [108, 111, 119, 101, 114]) = false := hn _ (by unfold Pl.classes; simp)
  have n8 : (b.toList == [112, 114, 105, 110, 116]) = false := hn _ (by unfold Pl.classes; simp)
  have n9 : (b.toList == [112, 117, 110, 99, 116]) = false := hn _ (by unfold Pl.classes; simp)
  have n10 : (b.toList == [115, 112, 97, 99, 101]) = false := hn _ (by unfold Pl.classes; simp)
  have n11 : (b.toList == [117, 112, 112, 101, 114]) = false := hn _ (by unfold Pl.classes; simp)
  have n12 : (b.toList == [119, 111, 114, 100]) = false := hn _ (by unfold Pl.classes; simp)
  have n13 : (b.toList == [120, 100, 105, 103, 105, 116]) = false := hn _ (by unfold Pl.classes; simp)
  clear hn
  go_enter Tryf.func10, Tryf.ntmps10
  go_wp2_with (first | (go_at_call 11; go_must (refine (zzCut_named _ _ _ i (size_tail hs) (by decide) (by decide) (by exact hi) H b _ HB rfl).mono ?_); rintro e w1 ⟨rfl, hq⟩; have hF1 := answers_drewN hF hq; have hw1 := bel_drewN hq; have HQ := Lib.hid hq; clear hq) | go_in)
  all_goals go_ret2
  all_goals exact ⟨_, rfl, by repeat (first | exact hw1 | refine Below.drew ?_ | refine Below.alloc ?_ (by have := hw1.size; simp; omega) _)⟩

set_option maxHeartbeats 1600000 in
theorem cc_good (s : ByteArray) (w : World) (hs : s.size ≤ 1073741824) (h0 : 0 < s.size) (hd : (s[0].toNat : Int) = 58) (hp : ((s.extract 0 1).toList == [58]) = true) (i : Nat) (hi : i + 2 ≤ (s.extract 1 s.size).size) (H : Hid (Pl.idx (s.extract 1 s.size) ⟨#[58, 93]⟩ = i))
    (b : ByteArray) (HB : Hid (b = (s.extract 1 s.size).extract 0 i)) (l : List UInt8) (hl : l ∈ Pl.classes) (hbl : b = ⟨l.toArray⟩) :
    Calls Tryf.prog 10 #[.string s] w (NoErr ((i : Int) + 3) w) := by
  have hbs : (b.size : Int) = (i : Int) := by rw [HB.out]; simp at hi ⊢; omega
  have hib : (i : Int) ≤ 1073741824 := by simp at hi; omega
  unfold Pl.classes at hl
  simp only [List.mem_cons, List.not_mem_nil, or_false] at hl
  rcases hl with rfl | rfl | rfl | rfl | rfl | rfl | rfl | rfl | rfl | rfl | rfl | rfl | rfl | rfl
  all_goals
    subst hbl
    have HS := Lib.hid hbs
    clear hbs
    go_enter Tryf.func10, Tryf.ntmps10
    go_wp2_with (first | (go_at_call 11; go_must (refine (zzCut_named _ _ _ i (size_tail hs) (by decide) (by decide) (by exact hi) H _ _ HB rfl).mono ?_); rintro e w1 ⟨rfl, hq⟩; have hw1 := bel_drewN hq; have HQ := Lib.hid hq; clear hq) | go_in)
    go_ret2
    exact ⟨by rw [← HS.out]; rfl, hw1⟩
end Go.Proofs.YtopaaaacbegmnaaFmt
