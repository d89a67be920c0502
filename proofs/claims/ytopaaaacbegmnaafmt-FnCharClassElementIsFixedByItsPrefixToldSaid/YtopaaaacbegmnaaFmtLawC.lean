/-
  THE WALK OF THE LAW FnCharClassElementIsFixedByItsPrefix: it returns true at every two texts, and nothing that was there has turned.
-/
import Derived.Test.YtopaaaacbegmnaaFmtLawB
import Derived.Test.YtopaaaacbegmnaaFmtPlain3
import Derived.Deep.RegionWith
namespace Go.Proofs.YtopaaaacbegmnaaFmt
set_option linter.unusedVariables false
open Go.RowKit Go.Extern.Stop Go.Stop Go.Extern Go.Lib

theorem ans_below {F : Interp} {B : Nat} {w w1 : World} (hF : F.answers w.tape) (hb : Below B w w1) : F.answers w1.tape := by rw [hb.tape]; exact hF
theorem bel_n (w : World) (n : Nat) : Below w.heap.size w (w.drewN n) := bel_drewN ⟨n, rfl⟩
theorem bel3 {w w1 w2 : World} {n : Nat} (h1 : Below w.heap.size w w1) (h2 : Below (w1.drewN n).heap.size (w1.drewN n) w2) : Below w.heap.size w w2 := by
  have a := bel_n w1 n
  exact (h1.trans (a.mono h1.size)).trans (h2.mono (Nat.le_trans h1.size a.size))

theorem law4_size (s t : ByteArray) (w : World) (hs : s.size ≤ maxLen) (ht : t.size ≤ maxLen) (h : 1048576 < s.size + t.size) : Calls Tryf.prog 4 #[.string s, .string t] w (Yes w) := by
  have hs' : s.size ≤ 9223372036854775807 := hs
  go_enter Tryf.func4, Tryf.ntmps4
  go_wp2_with (go_at_call 9; refine (bytes2_no _ _ _ hs ht h).mono ?_; rintro e w' ⟨rfl, rfl⟩)
  go_ret
  exact ⟨rfl, Below.refl _ _⟩
theorem law4_bigs (s t : ByteArray) (w : World) (h : s.size + t.size ≤ 1048576) (hb : 131072 < s.size) : Calls Tryf.prog 4 #[.string s, .string t] w (Yes w) := by
  go_enter Tryf.func4, Tryf.ntmps4
  go_wp2_with (go_at_call 9; refine (bytes2_ok _ _ _ h).mono ?_; rintro e w' ⟨rfl, rfl⟩)
  all_goals go_ret
  all_goals exact ⟨rfl, Below.refl _ _⟩
theorem law4_bigt (s t : ByteArray) (w : World) (h : s.size + t.size ≤ 1048576) (hs : s.size ≤ 131072) (hb : 131072 < t.size) : Calls Tryf.prog 4 #[.string s, .string t] w (Yes w) := by
  go_enter Tryf.func4, Tryf.ntmps4
  go_wp2_with (go_at_call 9; refine (bytes2_ok _ _ _ h).mono ?_; rintro e w' ⟨rfl, rfl⟩)
  all_goals go_ret
  all_goals exact ⟨rfl, Below.refl _ _⟩

theorem law4_empty (t : ByteArray) (w : World) (h : t.size ≤ 131072) : Calls Tryf.prog 4 #[.string ⟨#[]⟩, .string t] w (Yes w) := by
  go_enter Tryf.func4, Tryf.ntmps4
  go_wp2_with (first | (go_at_call 9; refine (bytes2_ok _ _ _ (by show 0 + t.size ≤ 1048576; omega)).mono ?_; rintro e w' ⟨rfl, rfl⟩) | (go_at_call 6; refine (zz_noErr (cc_empty _)).mono ?_; rintro e w1 ⟨rfl, hb⟩))
  go_ret
  exact ⟨rfl, hb⟩

theorem law4_plain (s t : ByteArray) (w : World) (hs : s.size ≤ 131072) (ht : t.size ≤ 131072) (h0 : 0 < s.size) (h46 : ((s[0].toNat : Int) == 46) = false) (h61 : ((s[0].toNat : Int) == 61) = false) (h58 : ((s[0].toNat : Int) == 58) = false) (hp : ((s.extract 0 1).toList == [58]) = false) :
    Calls Tryf.prog 4 #[.string s, .string t] w (Yes w) := by
  have hne := ne_empty h0
  go_enter Tryf.func4, Tryf.ntmps4
  go_wp2_with (first | (go_at_call 9; refine (bytes2_ok _ _ _ (by omega)).mono ?_; rintro e w' ⟨rfl, rfl⟩) | (go_at_call 6; refine (zz_noErr (cc_plain _ _ (by omega) h0 h46 h61 hp)).mono ?_; rintro e w1 ⟨rfl, hb⟩))
  all_goals go_ret
  all_goals exact ⟨rfl, hb⟩

set_option maxHeartbeats 400000 in
theorem law4_no46 (F : Interp) (s t : ByteArray) (w : World) (hF : F.answers w.tape) (hs : s.size ≤ 131072) (ht : t.size ≤ 131072) (h0 : 0 < s.size) (hd : (s[0].toNat : Int) = 46) (H : Hid (Pl.idx (s.extract 1 s.size) ⟨#[46, 93]⟩ = -1)) :
    Calls Tryf.prog 4 #[.string s, .string t] w (Yes w) := by
  have hne := ne_empty h0
  go_enter Tryf.func4, Tryf.ntmps4
  go_wp2_with (first | (go_at_call 9; refine (bytes2_ok _ _ _ (by omega)).mono ?_; rintro e w' ⟨rfl, rfl⟩) | (go_at_call_of 6 (Value.string s); refine (zz_err (cc_no46 F s _ hF (by omega) h0 hd H)).mono ?_; rintro e w1 ⟨a, rfl, hb⟩))
  all_goals go_ret
  all_goals exact ⟨rfl, hb⟩

set_option maxHeartbeats 400000 in
theorem law4_no61 (F : Interp) (s t : ByteArray) (w : World) (hF : F.answers w.tape) (hs : s.size ≤ 131072) (ht : t.size ≤ 131072) (h0 : 0 < s.size) (hd : (s[0].toNat : Int) = 61) (H : Hid (Pl.idx (s.extract 1 s.size) ⟨#[61, 93]⟩ = -1)) :
    Calls Tryf.prog 4 #[.string s, .string t] w (Yes w) := by
  have hne := ne_empty h0
  go_enter Tryf.func4, Tryf.ntmps4
  go_wp2_with (first | (go_at_call 9; refine (bytes2_ok _ _ _ (by omega)).mono ?_; rintro e w' ⟨rfl, rfl⟩) | (go_at_call_of 6 (Value.string s); refine (zz_err (cc_no61 F s _ hF (by omega) h0 hd H)).mono ?_; rintro e w1 ⟨a, rfl, hb⟩))
  all_goals go_ret
  all_goals exact ⟨rfl, hb⟩

set_option maxHeartbeats 400000 in
theorem law4_no58 (F : Interp) (s t : ByteArray) (w : World) (hF : F.answers w.tape) (hs : s.size ≤ 131072) (ht : t.size ≤ 131072) (h0 : 0 < s.size) (hd : (s[0].toNat : Int) = 58) (hp : ((s.extract 0 1).toList == [58]) = true) (H : Hid (Pl.idx (s.extract 1 s.size) ⟨#[58, 93]⟩ = -1)) :
    Calls Tryf.prog 4 #[.string s, .string t] w (Yes w) := by
  have hne := ne_empty h0
  go_enter Tryf.func4, Tryf.ntmps4
  go_wp2_with (first | (go_at_call 9; refine (bytes2_ok _ _ _ (by omega)).mono ?_; rintro e w' ⟨rfl, rfl⟩) | (go_at_call_of 6 (Value.string s); refine (zz_err (cc_no58 F s _ hF (by omega) h0 hd hp H)).mono ?_; rintro e w1 ⟨a, rfl, hb⟩))
  all_goals go_ret
  all_goals exact ⟨rfl, hb⟩

set_option maxHeartbeats 800000 in
theorem law4_yes46 (F : Interp) (s t : ByteArray) (w : World) (hF : F.answers w.tape) (hs : s.size ≤ 131072) (ht : t.size ≤ 131072) (h0 : 0 < s.size) (hd : (s[0].toNat : Int) = 46) (i : Nat) (i1 : i + 1 < s.size) (i2 : i + 2 < s.size) (hx : (s[i + 1].toNat : Int) = 46) (hy : (s[i + 2].toNat : Int) = 93)
    (hi : i + 2 ≤ (s.extract 1 s.size).size) (H : Hid (Pl.idx (s.extract 1 s.size) ⟨#[46, 93]⟩ = i))
    (HD : Hid (∃ z0 : 0 < (s ++ t).size, (((s ++ t)[0].toNat : Int) = 46))) (hi' : i + 2 ≤ ((s ++ t).extract 1 (s ++ t).size).size) (H' : Hid (Pl.idx ((s ++ t).extract 1 (s ++ t).size) ⟨#[46, 93]⟩ = i)) :
    Calls Tryf.prog 4 #[.string s, .string t] w (Yes w) := by
  have hib : (i : Int) + 3 ≤ (s.size : Int) := by omega
  have hne := ne_empty h0
  have hz : (s ++ t).size ≤ 1073741824 := by rw [Pl.size_app]; omega
  have HZ := Lib.hid hz
  have HI := Lib.hid hi'
  clear hz hi'
  go_enter Tryf.func4, Tryf.ntmps4
  go_wp2_with (first | (go_at_call 9; refine (bytes2_ok _ _ _ (by omega)).mono ?_; rintro e w' ⟨rfl, rfl⟩) | (go_at_call_of 6 (Value.string s); refine (zz_err (cc_yes46 F s _ hF (by omega) h0 hd i hi H)).mono ?_; rintro e w1 ⟨a, rfl, hb⟩))
  have g1 : decide ((i : Int) + 3 < 3) = false := decide_eq_false (by omega)
  have e1 : IntKind.i64.wrap ((i : Int) + 3 - 1) = (i : Int) + 2 := by rw [IntKind.wrap_i64]; omega
  have e2 : IntKind.i64.wrap ((i : Int) + 3 - 2) = (i : Int) + 1 := by rw [IntKind.wrap_i64]; omega
  have b1 : (0 : Int) ≤ (i : Int) + 2 := by omega
  have b2 : (i : Int) + 2 < (s.size : Int) := by omega
  have b3 : (0 : Int) ≤ (i : Int) + 1 := by omega
  have b4 : (i : Int) + 1 < (s.size : Int) := by omega
  have t1 : ((i : Int) + 2).toNat = i + 2 := by omega
  have t2 : ((i : Int) + 1).toNat = i + 1 := by omega
  go_quiet (fail)
  clear e1 e2 t1 t2 g1 b1 b2 b3 b4
  have hbn := hb.trans ((bel_n w1 nq).mono hb.size)
  go_wp2_with (go_at_call 6; go_must (refine (zz_err (cc_yes46 F (s ++ t) _ (ans_below hF hbn) HZ.out HD.out.choose HD.out.choose_spec i HI.out H')).mono ?_); rintro e w2 ⟨a2, rfl, hb2⟩)
  all_goals go_ret
  all_goals exact ⟨rfl, bel3 hb hb2⟩

set_option maxHeartbeats 800000 in
theorem law4_yes61 (F : Interp) (s t : ByteArray) (w : World) (hF : F.answers w.tape) (hs : s.size ≤ 131072) (ht : t.size ≤ 131072) (h0 : 0 < s.size) (hd : (s[0].toNat : Int) = 61) (i : Nat) (i1 : i + 1 < s.size) (i2 : i + 2 < s.size) (hx : (s[i + 1].toNat : Int) = 61) (hy : (s[i + 2].toNat : Int) = 93)
    (hi : i + 2 ≤ (s.extract 1 s.size).size) (H : Hid (Pl.idx (s.extract 1 s.size) ⟨#[61, 93]⟩ = i))
    (HD : Hid (∃ z0 : 0 < (s ++ t).size, (((s ++ t)[0].toNat : Int) = 61))) (hi' : i + 2 ≤ ((s ++ t).extract 1 (s ++ t).size).size) (H' : Hid (Pl.idx ((s ++ t).extract 1 (s ++ t).size) ⟨#[61, 93]⟩ = i)) :
    Calls Tryf.prog 4 #[.string s, .string t] w (Yes w) := by
  have hib : (i : Int) + 3 ≤ (s.size : Int) := by omega
  have hne := ne_empty h0
  have hz : (s ++ t).size ≤ 1073741824 := by rw [Pl.size_app]; omega
  have HZ := Lib.hid hz
  have HI := Lib.hid hi'
  clear hz hi'
  go_enter Tryf.func4, Tryf.ntmps4
  go_wp2_with (first | (go_at_call 9; refine (bytes2_ok _ _ _ (by omega)).mono ?_; rintro e w' ⟨rfl, rfl⟩) | (go_at_call_of 6 (Value.string s); refine (zz_err (cc_yes61 F s _ hF (by omega) h0 hd i hi H)).mono ?_; rintro e w1 ⟨a, rfl, hb⟩))
  have g1 : decide ((i : Int) + 3 < 3) = false := decide_eq_false (by omega)
  have e1 : IntKind.i64.wrap ((i : Int) + 3 - 1) = (i : Int) + 2 := by rw [IntKind.wrap_i64]; omega
  have e2 : IntKind.i64.wrap ((i : Int) + 3 - 2) = (i : Int) + 1 := by rw [IntKind.wrap_i64]; omega
  have b1 : (0 : Int) ≤ (i : Int) + 2 := by omega
  have b2 : (i : Int) + 2 < (s.size : Int) := by omega
  have b3 : (0 : Int) ≤ (i : Int) + 1 := by omega
  have b4 : (i : Int) + 1 < (s.size : Int) := by omega
  have t1 : ((i : Int) + 2).toNat = i + 2 := by omega
  have t2 : ((i : Int) + 1).toNat = i + 1 := by omega
  go_quiet (fail)
  clear e1 e2 t1 t2 g1 b1 b2 b3 b4
  have hbn := hb.trans ((bel_n w1 nq).mono hb.size)
  go_wp2_with (go_at_call 6; go_must (refine (zz_err (cc_yes61 F (s ++ t) _ (ans_below hF hbn) HZ.out HD.out.choose HD.out.choose_spec i HI.out H')).mono ?_); rintro e w2 ⟨a2, rfl, hb2⟩)
  all_goals go_ret
  all_goals exact ⟨rfl, bel3 hb hb2⟩

set_option maxHeartbeats 800000 in
theorem law4_bad (F : Interp) (s t : ByteArray) (w : World) (hF : F.answers w.tape) (hs : s.size ≤ 131072) (ht : t.size ≤ 131072) (h0 : 0 < s.size) (hd : (s[0].toNat : Int) = 58) (i : Nat) (i1 : i + 1 < s.size) (i2 : i + 2 < s.size) (hx : (s[i + 1].toNat : Int) = 58) (hy : (s[i + 2].toNat : Int) = 93)
    (hi : i + 2 ≤ (s.extract 1 s.size).size) (H : Hid (Pl.idx (s.extract 1 s.size) ⟨#[58, 93]⟩ = i))
    (HD : Hid (∃ z0 : 0 < (s ++ t).size, (((s ++ t)[0].toNat : Int) = 58))) (hi' : i + 2 ≤ ((s ++ t).extract 1 (s ++ t).size).size) (H' : Hid (Pl.idx ((s ++ t).extract 1 (s ++ t).size) ⟨#[58, 93]⟩ = i)) (hp : ((s.extract 0 1).toList == [58]) = true) (HP : Hid ((((s ++ t).extract 0 1).toList == [58]) = true)) (b : ByteArray) (HB : Hid (b = (s.extract 1 s.size).extract 0 i)) (HB' : Hid (b = ((s ++ t).extract 1 (s ++ t).size).extract 0 i)) (HN : Hid (∀ l ∈ Pl.classes, (b.toList == l) = false)) :
    Calls Tryf.prog 4 #[.string s, .string t] w (Yes w) := by
  have hib : (i : Int) + 3 ≤ (s.size : Int) := by omega
  have hne := ne_empty h0
  have hz : (s ++ t).size ≤ 1073741824 := by rw [Pl.size_app]; omega
  have HZ := Lib.hid hz
  have HI := Lib.hid hi'
  clear hz hi'
  go_enter Tryf.func4, Tryf.ntmps4
  go_wp2_with (first | (go_at_call 9; refine (bytes2_ok _ _ _ (by omega)).mono ?_; rintro e w' ⟨rfl, rfl⟩) | (go_at_call_of 6 (Value.string s); refine (zz_err (cc_bad F s _ hF (by omega) h0 hd hp i hi H b HB HN.out)).mono ?_; rintro e w1 ⟨a, rfl, hb⟩))
  have g1 : decide ((i : Int) + 3 < 3) = false := decide_eq_false (by omega)
  have e1 : IntKind.i64.wrap ((i : Int) + 3 - 1) = (i : Int) + 2 := by rw [IntKind.wrap_i64]; omega
  have e2 : IntKind.i64.wrap ((i : Int) + 3 - 2) = (i : Int) + 1 := by rw [IntKind.wrap_i64]; omega
  have b1 : (0 : Int) ≤ (i : Int) + 2 := by omega
  have b2 : (i : Int) + 2 < (s.size : Int) := by omega
  have b3 : (0 : Int) ≤ (i : Int) + 1 := by omega
  have b4 : (i : Int) + 1 < (s.size : Int) := by omega
  have t1 : ((i : Int) + 2).toNat = i + 2 := by omega
  have t2 : ((i : Int) + 1).toNat = i + 1 := by omega
  go_quiet (fail)
  clear e1 e2 t1 t2 g1 b1 b2 b3 b4
  have hbn := hb.trans ((bel_n w1 nq).mono hb.size)
  go_wp2_with (go_at_call 6; go_must (refine (zz_err (cc_bad F (s ++ t) _ (ans_below hF hbn) HZ.out HD.out.choose HD.out.choose_spec HP.out i HI.out H' b HB' HN.out)).mono ?_); rintro e w2 ⟨a2, rfl, hb2⟩)
  all_goals go_ret
  all_goals exact ⟨rfl, bel3 hb hb2⟩

set_option maxHeartbeats 800000 in
theorem law4_good (s t : ByteArray) (w : World) (hs : s.size ≤ 131072) (ht : t.size ≤ 131072) (h0 : 0 < s.size) (hd : (s[0].toNat : Int) = 58) (i : Nat) (i1 : i + 1 < s.size) (i2 : i + 2 < s.size) (hx : (s[i + 1].toNat : Int) = 58) (hy : (s[i + 2].toNat : Int) = 93)
    (hi : i + 2 ≤ (s.extract 1 s.size).size) (H : Hid (Pl.idx (s.extract 1 s.size) ⟨#[58, 93]⟩ = i))
    (HD : Hid (∃ z0 : 0 < (s ++ t).size, (((s ++ t)[0].toNat : Int) = 58))) (hi' : i + 2 ≤ ((s ++ t).extract 1 (s ++ t).size).size) (H' : Hid (Pl.idx ((s ++ t).extract 1 (s ++ t).size) ⟨#[58, 93]⟩ = i)) (hp : ((s.extract 0 1).toList == [58]) = true) (HP : Hid ((((s ++ t).extract 0 1).toList == [58]) = true)) (b : ByteArray) (HB : Hid (b = (s.extract 1 s.size).extract 0 i)) (HB' : Hid (b = ((s ++ t).extract 1 (s ++ t).size).extract 0 i)) (l : List UInt8) (hl : l ∈ Pl.classes) (HL : Hid (b = ⟨l.toArray⟩)) :
    Calls Tryf.prog 4 #[.string s, .string t] w (Yes w) := by
  have hib : (i : Int) + 3 ≤ (s.size : Int) := by omega
  have hne := ne_empty h0
  have hz : (s ++ t).size ≤ 1073741824 := by rw [Pl.size_app]; omega
  have HZ := Lib.hid hz
  have HI := Lib.hid hi'
  clear hz hi'
  go_enter Tryf.func4, Tryf.ntmps4
  go_wp2_with (first | (go_at_call 9; refine (bytes2_ok _ _ _ (by omega)).mono ?_; rintro e w' ⟨rfl, rfl⟩) | (go_at_call_of 6 (Value.string s); refine (zz_noErr (cc_good s _ (by omega) h0 hd hp i hi H b HB l hl HL.out)).mono ?_; rintro e w1 ⟨rfl, hb⟩))
  have g1 : decide ((i : Int) + 3 < 3) = false := decide_eq_false (by omega)
  have e1 : IntKind.i64.wrap ((i : Int) + 3 - 1) = (i : Int) + 2 := by rw [IntKind.wrap_i64]; omega
  have e2 : IntKind.i64.wrap ((i : Int) + 3 - 2) = (i : Int) + 1 := by rw [IntKind.wrap_i64]; omega
  have b1 : (0 : Int) ≤ (i : Int) + 2 := by omega
  have b2 : (i : Int) + 2 < (s.size : Int) := by omega
  have b3 : (0 : Int) ≤ (i : Int) + 1 := by omega
  have b4 : (i : Int) + 1 < (s.size : Int) := by omega
  have t1 : ((i : Int) + 2).toNat = i + 2 := by omega
  have t2 : ((i : Int) + 1).toNat = i + 1 := by omega
  go_quiet (fail)
  clear e1 e2 t1 t2 g1 b1 b2 b3 b4
  have hbn := hb.trans ((bel_n w1 nq).mono hb.size)
  go_wp2_with (go_at_call 6; go_must (refine (zz_noErr (cc_good (s ++ t) _ HZ.out HD.out.choose HD.out.choose_spec HP.out i HI.out H' b HB' l hl HL.out)).mono ?_); rintro e w2 ⟨rfl, hb2⟩)
  all_goals go_ret
  all_goals exact ⟨rfl, bel3 hb hb2⟩
end Go.Proofs.YtopaaaacbegmnaaFmt
