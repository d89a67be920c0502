/-
  The walks of atoi whole and of FnAtoiNegation. Conditions: those in each theorem.
-/
import Derived.Test.YtopaaaacbegmnaaDoorAtP
import Derived.Test.YtopaaaacbegmnaaDoorAtM
import Derived.Test.YtopaaaacbegmnaaDoorP2
namespace Go.Proofs.YtopaaaacbegmnaaDoor
set_option linter.unusedVariables false
open Go.Shelf Go.RowKit Go.Lib

theorem atoi15 (s : ByteArray) (w : World) (hT : AtT w) (hs : s.size ≤ 1073741824) : Calls Tryd.prog 15 #[.string s] w (AtOut (atD (trimSpaceD s.data.toList)) w) := by
  obtain ⟨t, ht⟩ : ∃ t : ByteArray, (⟨(Lib.trimSpaceD s.data.toList).toArray⟩ : ByteArray) = t := ⟨_, rfl⟩
  have htl : t.data.toList = trimSpaceD s.data.toList := by rw [← ht]
  have hts : t.size ≤ 1073741824 := by
    have h1 := trim_len s.data.toList
    rw [← htl, ← Lib.size_eq, ← Lib.size_eq] at h1
    omega
  rw [← htl]
  by_cases h1 : t.data.toList.head? = some 43
  · obtain ⟨r, hr⟩ : ∃ r, t.data.toList = 43 :: r := by
      cases h : t.data.toList with
      | nil => rw [h] at h1; cases h1
      | cons c r => rw [h] at h1; simp at h1; exact ⟨r, by rw [h1]⟩
    exact atoi_plus s t w hT hs hts ht r hr
  · by_cases h2 : t.data.toList.head? = some 45
    · obtain ⟨r, hr⟩ : ∃ r, t.data.toList = 45 :: r := by
        cases h : t.data.toList with
        | nil => rw [h] at h2; cases h2
        | cons c r => rw [h] at h2; simp at h2; exact ⟨r, by rw [h2]⟩
      exact atoi_minus s t w hT hs hts ht r hr
    · exact atoi_none s t w hT hs hts ht h1 h2
theorem door8 (s : ByteArray) (w : World) (hT : AtT w) (hs : s.size ≤ 1073741824) : Calls Tryd.prog 8 #[.string s] w (AtOut (atD (trimSpaceD s.data.toList)) w) := by
  have A := Lib.hid (atoi15 s w hT hs)
  obtain ⟨v, hv⟩ : ∃ v, v = atD (trimSpaceD s.data.toList) := ⟨_, rfl⟩
  rw [← hv] at A ⊢
  clear hv hT
  go_enter Tryd.func8, Tryd.ntmps8
  go_wp2_with (go_at_call 15; refine A.out.mono ?_; rintro e w1 ⟨rfl, hb⟩; have HB := Lib.hid hb; clear hb A)
  go_ret
  exact ao_mk rfl HB.out

/-- yes, and then Q is so; or no -/
def SayA (Q : Bool → Prop) (e : Ending) : Prop := ∃ b : Bool, e = .returned (.bool b) ∧ Q b
theorem sayA {Q : Bool → Prop} (b : Bool) (h : Q b) : SayA Q (.returned (.bool b)) := ⟨b, rfl, h⟩
theorem bytes10 (s : ByteArray) (w : World) : Calls Tryd.prog 10 #[.string s] w fun e w' => SayA (fun _ => True) e ∧ w = w' := by
  by_cases h : (1048576 : Int) < (s.size : Int)
  · go_enter Tryd.func10, Tryd.ntmps10
    go_wp2
    go_ret
    exact ⟨sayA _ trivial, rfl⟩
  · go_enter Tryd.func10, Tryd.ntmps10
    go_wp2
    go_ret
    exact ⟨sayA _ trivial, rfl⟩
/-- zzIsSpace -/
theorem space11 (c : UInt8) (w : World) : Calls Tryd.prog 11 #[.int .u8 ((c.toNat : Nat) : Int)] w fun e w' => e = .returned (.bool (isSp c)) ∧ w = w' := by
  have hc : (((c.toNat : Nat) : Int) = 32 ∨ 9 ≤ ((c.toNat : Nat) : Int) ∧ ((c.toNat : Nat) : Int) ≤ 13) ↔ isSp c = true := by
    have h := of_decide_eq_true (List.all_eq_true.1 (show (List.range 256).all (fun n => decide ((n = 32 ∨ 9 ≤ n ∧ n ≤ 13) ↔ isSp (UInt8.ofNat n) = true)) = true by kernel_rfl) c.toNat (List.mem_range.2 (UInt8.toNat_lt c)))
    rw [UInt8.ofNat_toNat] at h
    rw [← h]
    omega
  generalize isSp c = b at hc
  generalize ((c.toNat : Nat) : Int) = x at hc
  cases b with
  | true =>
    have h1 := hc.2 rfl
    clear hc
    by_cases h32 : x = 32
    · subst h32
      go_enter Tryd.func11, Tryd.ntmps11
      go_wp2
      go_ret
      exact ⟨rfl, rfl⟩
    · have h2 : 9 ≤ x := by omega
      have h3 : x ≤ 13 := by omega
      clear h1
      go_enter Tryd.func11, Tryd.ntmps11
      go_wp2
      go_ret
      exact ⟨rfl, rfl⟩
  | false =>
    have h1 : ¬ (x = 32 ∨ 9 ≤ x ∧ x ≤ 13) := fun h => by have := hc.1 h; cases this
    clear hc
    have h32 : ¬ x = 32 := by omega
    have hz : (x == 32) = false := by rw [beq_eq_false_iff_ne]; exact h32
    by_cases h9 : 9 ≤ x
    · have h13 : ¬ x ≤ 13 := by omega
      clear h1
      go_enter Tryd.func11, Tryd.ntmps11
      go_wp2
      go_ret
      exact ⟨rfl, rfl⟩
    · clear h1
      go_enter Tryd.func11, Tryd.ntmps11
      go_wp2
      go_ret
      exact ⟨rfl, rfl⟩

theorem space43 (w : World) : Calls Tryd.prog 11 #[.int .u8 43] w fun e w' => e = .returned (.bool false) ∧ w = w' := space11 43 w
theorem space45 (w : World) : Calls Tryd.prog 11 #[.int .u8 45] w fun e w' => e = .returned (.bool false) ∧ w = w' := space11 45 w

set_option maxRecDepth 100000 in
set_option maxHeartbeats 4000000 in
theorem law4_main (s : ByteArray) (w : World) (hT : AtT w) (hs : s.size ≤ 65536) (hF : Front s.data.toList) (n1 : ¬ s.data.toList.head? = some 43) (n2 : ¬ s.data.toList.head? = some 45) :
    ∃ z : Int, atD (trimSpaceD s.data.toList) = z ∧ atD (trimSpaceD ((⟨#[45]⟩ : ByteArray) ++ s).data.toList) = wrap64 (-z) ∧ ((⟨#[45]⟩ : ByteArray) ++ s).size ≤ 1073741824 := by
  have e : ((⟨#[45]⟩ : ByteArray) ++ s).data.toList = 45 :: s.data.toList := by simp [ByteArray.data_append]
  refine ⟨_, rfl, ?_, ?_⟩
  · rw [e]; exact at_signed hF n1 n2
  · rw [Lib.size_eq, e, List.length_cons, ← Lib.size_eq]; omega

set_option maxRecDepth 100000 in
set_option maxHeartbeats 4000000 in
theorem law4_tail (s : ByteArray) (w : World) (hT : AtT w) (hs : s.size ≤ 65536) (hF : Front s.data.toList) (n1 : ¬ s.data.toList.head? = some 43) (n2 : ¬ s.data.toList.head? = some 45) :
    ∃ z : Int, Hid (∀ W, AtT W → Calls Tryd.prog 8 #[.string s] W (AtOut z W)) ∧ Hid (∀ W, AtT W → Calls Tryd.prog 8 #[.string ((⟨#[45]⟩ : ByteArray) ++ s)] W (AtOut (wrap64 (-z)) W)) := by
  obtain ⟨z, h1, h2, h3⟩ := law4_main s w hT hs hF n1 n2
  exact ⟨z, Lib.hid fun W hW => by have := door8 s W hW (by omega); rw [h1] at this; exact this, Lib.hid fun W hW => by have := door8 ((⟨#[45]⟩ : ByteArray) ++ s) W hW h3; rw [h2] at this; exact this⟩

set_option maxRecDepth 100000 in
set_option maxHeartbeats 1500000 in
theorem law4 (s : ByteArray) (w : World) (hT : AtT w) : Calls Tryd.prog 4 #[.string s] w fun e w' => e = .returned (.bool true) ∧ Below w.heap.size w w' := by
  have B10 := Lib.hid (bytes10 s w)
  have HT := Lib.hid hT
  by_cases g1 : (65536 : Int) < (s.size : Int)
  · clear hT
    go_enter Tryd.func4, Tryd.ntmps4
    go_wp2_with (go_at_call 10; refine B10.out.mono ?_; rintro e w' ⟨⟨b, rfl, _⟩, hw⟩; subst hw)
    all_goals (go_ret; exact ⟨rfl, Below.refl _ _⟩)
  have hfin : ∀ z : Int, IntKind.i64.wrap (-z) = wrap64 (-z) := fun z => wrap_is _
  by_cases g0 : s.size = 0
  · have hs0 : s = ⟨#[]⟩ := by
      apply ByteArray.ext
      exact Array.eq_empty_of_size_eq_zero g0
    have hl : s.data.toList = [] := by rw [hs0]
    obtain ⟨z, Z1, Z2⟩ := law4_tail s w hT (by omega) (by rw [hl]; intro c hc; cases hc) (by rw [hl]; intro h; cases h) (by rw [hl]; intro h; cases h)
    have hng := hfin z
    have hsz : (s.size : Int) = 0 := by omega
    have heq : (wrap64 (-z) == wrap64 (-z)) = true := by simp
    clear hT hfin hl hs0
    go_enter Tryd.func4, Tryd.ntmps4
    go_wp2_with (first | (go_at_call 10; refine B10.out.mono ?_; rintro e w' ⟨⟨b, rfl, _⟩, hw⟩; subst hw) | (go_at_call 8; refine (Z2.out _ HT.out).mono ?_; rintro e w1 ⟨rfl, hb⟩; have HB := Lib.hid hb; have T1 := Lib.hid (HT.out.below hb); clear hb Z2) | (go_at_call 8; refine (Z1.out _ T1.out).mono ?_; rintro e w2 ⟨rfl, hb2⟩; have HB2 := Lib.hid (HB.out.trans (hb2.mono HB.out.size)); clear hb2 Z1))
    all_goals go_ret
    all_goals first | exact ⟨rfl, Below.refl _ _⟩ | exact ⟨rfl, HB2.out⟩
  have hpos : 0 < s.size := by omega
  have hposi : (0 : Int) < (s.size : Int) := by omega
  obtain ⟨c0, hs0⟩ : ∃ c0, s[0]'hpos = c0 := ⟨_, rfl⟩
  have hhd : s.data.toList.head? = some c0 := by
    have := Lib.data_getElem? s 0 hpos
    rw [← hs0, ← this, List.head?_eq_getElem?]
  have S11 := Lib.hid (fun W => space11 c0 W)
  have hc0 : (0 : Int) ≤ ((c0.toNat : Nat) : Int) := by omega
  have hc1 : ((c0.toNat : Nat) : Int) < 256 := by have := UInt8.toNat_lt c0; omega
  by_cases g128 : (128 : Int) ≤ ((c0.toNat : Nat) : Int)
  · clear hT hfin hhd
    go_enter Tryd.func4, Tryd.ntmps4
    go_wp2_with (first | (go_at_call 10; refine B10.out.mono ?_; rintro e w' ⟨⟨b, rfl, _⟩, hw⟩; subst hw))
    all_goals go_ret
    all_goals exact ⟨rfl, Below.refl _ _⟩
  by_cases gsp : isSp c0 = true
  · rw [gsp] at S11
    clear hT hfin hhd gsp
    go_enter Tryd.func4, Tryd.ntmps4
    go_wp2_with (first | (go_at_call 10; refine B10.out.mono ?_; rintro e w' ⟨⟨b, rfl, _⟩, hw⟩; subst hw) | (go_at_call 11; refine (S11.out _).mono ?_; rintro e w' ⟨rfl, hw⟩; subst hw))
    all_goals go_ret
    all_goals exact ⟨rfl, Below.refl _ _⟩
  have gsp' : isSp c0 = false := by simpa using gsp
  rw [gsp'] at S11
  by_cases g43 : c0 = 43
  · have i43 : ((c0.toNat : Nat) : Int) = 43 := by rw [g43]; rfl
    clear hT hfin hhd gsp gsp' g43 S11
    go_enter Tryd.func4, Tryd.ntmps4
    go_wp2_with (first | (go_at_call 10; refine B10.out.mono ?_; rintro e w' ⟨⟨b, rfl, _⟩, hw⟩; subst hw) | (go_at_call 11; refine (space43 _).mono ?_; rintro e w' ⟨rfl, hw⟩; subst hw))
    all_goals go_ret
    all_goals exact ⟨rfl, Below.refl _ _⟩
  by_cases g45 : c0 = 45
  · have i45 : ((c0.toNat : Nat) : Int) = 45 := by rw [g45]; rfl
    clear hT hfin hhd gsp gsp' g43 g45 S11
    go_enter Tryd.func4, Tryd.ntmps4
    go_wp2_with (first | (go_at_call 10; refine B10.out.mono ?_; rintro e w' ⟨⟨b, rfl, _⟩, hw⟩; subst hw) | (go_at_call 11; refine (space45 _).mono ?_; rintro e w' ⟨rfl, hw⟩; subst hw))
    all_goals go_ret
    all_goals exact ⟨rfl, Below.refl _ _⟩
  obtain ⟨z, Z1, Z2⟩ := law4_tail s w hT (by omega) (by
    intro c hc
    rw [hhd] at hc
    cases hc
    exact ⟨gsp', by omega⟩) (by rw [hhd]; intro h; cases h; exact g43 rfl) (by rw [hhd]; intro h; cases h; exact g45 rfl)
  have i43 : ¬ ((c0.toNat : Nat) : Int) = 43 := fun h => g43 (Lib.byte_eq_of_toNat h)
  have i45 : ¬ ((c0.toNat : Nat) : Int) = 45 := fun h => g45 (Lib.byte_eq_of_toNat h)
  have hng := hfin z
  have heq : (wrap64 (-z) == wrap64 (-z)) = true := by simp
  clear hT hfin hhd gsp gsp' g43 g45
  go_enter Tryd.func4, Tryd.ntmps4
  go_wp2_with (first | (go_at_call 10; refine B10.out.mono ?_; rintro e w' ⟨⟨b, rfl, _⟩, hw⟩; subst hw) | (go_at_call 11; refine (S11.out _).mono ?_; rintro e w' ⟨rfl, hw⟩; subst hw) | (go_at_call 8; refine (Z2.out _ HT.out).mono ?_; rintro e w1 ⟨rfl, hb⟩; have HB := Lib.hid hb; have T1 := Lib.hid (HT.out.below hb); clear hb Z2) | (go_at_call 8; refine (Z1.out _ T1.out).mono ?_; rintro e w2 ⟨rfl, hb2⟩; have HB2 := Lib.hid (HB.out.trans (hb2.mono HB.out.size)); clear hb2 Z1))
  all_goals go_ret
  all_goals first | exact ⟨rfl, Below.refl _ _⟩ | exact ⟨rfl, HB2.out⟩
end Go.Proofs.YtopaaaacbegmnaaDoor
