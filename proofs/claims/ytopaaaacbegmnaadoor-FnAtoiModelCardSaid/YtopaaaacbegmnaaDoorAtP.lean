/-
  The walk of atoi: it hands back atD of the trimmed text (printed by genat.py). Conditions: those in each theorem.
-/
import Derived.Test.YtopaaaacbegmnaaDoorAt
namespace Go.Proofs.YtopaaaacbegmnaaDoor
set_option linter.unusedVariables false
open Go.Shelf Go.RowKit Go.Lib

set_option maxHeartbeats 8000000 in
set_option maxRecDepth 100000 in
theorem atoi_plus (s t : ByteArray) (w : World) (hT : AtT w) (hss : s.size ≤ 1073741824) (hts : t.size ≤ 1073741824) (ht22 : (⟨(Lib.trimSpaceD s.data.toList).toArray⟩ : ByteArray) = t) (r0 : List UInt8) (ht : t.data.toList = 43 :: r0) :
    Calls Tryd.prog 15 #[.string s] w (AtOut (atD t.data.toList) w) := by
  have HT := Lib.hid hT
  have T22 := Lib.hid (trim22 s w hss hT)
  clear hT
  have hlu : (t.extract 1 t.size).data.toList = r0 := by rw [ext_list, ht]; rfl
  have hone : (1 : Int) ≤ (t.size : Int) := by have := Lib.size_eq t; rw [ht] at this; simp at this; omega
  have HA := Lib.hid (at_plus ht)
  obtain ⟨u, hu⟩ : ∃ u, u = t.extract 1 t.size := ⟨_, rfl⟩
  have hus : u.size ≤ 1073741824 := by rw [hu]; have := ext_size t 1; omega
  have HA2 : Hid (atD t.data.toList = body u.data.toList) := by rw [hu, hlu]; exact HA
  have hsl : ∀ W, (Instr.slice 9 (.string t) (some (.int .i64 1)) none none).run Tryd.prog W = .ok (.string u) W := fun W => by
    rw [hu, run_slice_string_from_if W 9 t .i64 _ Tryd.underlying9, if_pos ⟨by omega, by omega⟩]
    rfl
  have H1 := Lib.hid (fun W => pre23 t ⟨#[43]⟩ true (by rw [ht]; rfl) W)
  have H2 := Lib.hid (fun W => pre23 t ⟨#[45]⟩ false (by rw [ht]; rfl) W)
  clear HA ht hlu hu hone
  skip
  cases way u.data.toList with
  | hex r h =>
    obtain ⟨u2, hu2⟩ : ∃ u2, u2 = u.extract 2 u.size := ⟨_, rfl⟩
    have hl2 : u2.data.toList = r := by rw [hu2, ext_list, h]; rfl
    have hs2 : u2.size ≤ 1073741824 := by rw [hu2]; have := ext_size u 2; omega
    have h2i : (2 : Int) ≤ (u.size : Int) := by have := Lib.size_eq u; rw [h] at this; simp at this; omega
    have hsl2 : ∀ W, (Instr.slice 9 (.string u) (some (.int .i64 2)) none none).run Tryd.prog W = .ok (.string u2) W := fun W => by
      rw [hu2, run_slice_string_from_if W 9 u .i64 _ Tryd.underlying9, if_pos ⟨by omega, by omega⟩]
      rfl
    have H3 := Lib.hid (fun W => pre23 u ⟨#[48, 120]⟩ true (by rw [h]; rfl) W)
    have H4 := Lib.hid (fun W => pre23 u ⟨#[48, 88]⟩ false (by rw [h]; rfl) W)
    obtain ⟨z, hz⟩ : ∃ z, z = pi 16 (r) := ⟨_, rfl⟩
    have HV : Hid (z = atD t.data.toList) := Lib.hid (by rw [HA2.out, body_x h (.inl rfl), ← hz])
    have P25 : Hid (∀ W, AtT W → Calls Tryd.prog 25 #[.string (u2), .int .i64 16, .int .i64 64] W (NumOut z W)) := Lib.hid fun W hW => by
      have h := parse25 16 (by decide) (by decide) (u2) (by exact hs2) W hW.er
      rw [hl2, ← hz] at h
      exact h
    clear hl2 h hz HA2 hu2 hs2 h2i
    go_enter Tryd.func15, Tryd.ntmps15
    go_wp2_with (first | (go_at_call 22; refine T22.out.mono ?_; rintro e w1 ⟨rfl, hb⟩; rw [ht22]; have HB := Lib.hid hb; have A1 := Lib.hid (HT.out.below hb); clear hb T22) | (go_at_call 23; refine (H1.out _).mono ?_; rintro e w' ⟨rfl, hw'⟩; have hw' := hw'.symm; subst hw') | (go_at_call 23; refine (H2.out _).mono ?_; rintro e w' ⟨rfl, hw'⟩; have hw' := hw'.symm; subst hw') | (go_at_call 23; refine (H3.out _).mono ?_; rintro e w' ⟨rfl, hw'⟩; have hw' := hw'.symm; subst hw') | (go_at_call 23; refine (H4.out _).mono ?_; rintro e w' ⟨rfl, hw'⟩; have hw' := hw'.symm; subst hw') | (go_at_call 25; refine (P25.out _ A1.out).mono ?_; rintro e w2 ⟨⟨er, rfl⟩, hb2⟩; have HB2 := Lib.hid (HB.out.trans (hb2.mono HB.out.size)); clear hb2 P25))
    all_goals go_ret
    all_goals exact ao_mk (by first | exact HV.out | (rw [← HV.out]; unfold wrap64; rfl)) HB2.out
  | heX r h =>
    obtain ⟨u2, hu2⟩ : ∃ u2, u2 = u.extract 2 u.size := ⟨_, rfl⟩
    have hl2 : u2.data.toList = r := by rw [hu2, ext_list, h]; rfl
    have hs2 : u2.size ≤ 1073741824 := by rw [hu2]; have := ext_size u 2; omega
    have h2i : (2 : Int) ≤ (u.size : Int) := by have := Lib.size_eq u; rw [h] at this; simp at this; omega
    have hsl2 : ∀ W, (Instr.slice 9 (.string u) (some (.int .i64 2)) none none).run Tryd.prog W = .ok (.string u2) W := fun W => by
      rw [hu2, run_slice_string_from_if W 9 u .i64 _ Tryd.underlying9, if_pos ⟨by omega, by omega⟩]
      rfl
    have H3 := Lib.hid (fun W => pre23 u ⟨#[48, 120]⟩ false (by rw [h]; rfl) W)
    have H4 := Lib.hid (fun W => pre23 u ⟨#[48, 88]⟩ true (by rw [h]; rfl) W)
    obtain ⟨z, hz⟩ : ∃ z, z = pi 16 (r) := ⟨_, rfl⟩
    have HV : Hid (z = atD t.data.toList) := Lib.hid (by rw [HA2.out, body_x h (.inr rfl), ← hz])
    have P25 : Hid (∀ W, AtT W → Calls Tryd.prog 25 #[.string (u2), .int .i64 16, .int .i64 64] W (NumOut z W)) := Lib.hid fun W hW => by
      have h := parse25 16 (by decide) (by decide) (u2) (by exact hs2) W hW.er
      rw [hl2, ← hz] at h
      exact h
    clear hl2 h hz HA2 hu2 hs2 h2i
    go_enter Tryd.func15, Tryd.ntmps15
    go_wp2_with (first | (go_at_call 22; refine T22.out.mono ?_; rintro e w1 ⟨rfl, hb⟩; rw [ht22]; have HB := Lib.hid hb; have A1 := Lib.hid (HT.out.below hb); clear hb T22) | (go_at_call 23; refine (H1.out _).mono ?_; rintro e w' ⟨rfl, hw'⟩; have hw' := hw'.symm; subst hw') | (go_at_call 23; refine (H2.out _).mono ?_; rintro e w' ⟨rfl, hw'⟩; have hw' := hw'.symm; subst hw') | (go_at_call 23; refine (H3.out _).mono ?_; rintro e w' ⟨rfl, hw'⟩; have hw' := hw'.symm; subst hw') | (go_at_call 23; refine (H4.out _).mono ?_; rintro e w' ⟨rfl, hw'⟩; have hw' := hw'.symm; subst hw') | (go_at_call 25; refine (P25.out _ A1.out).mono ?_; rintro e w2 ⟨⟨er, rfl⟩, hb2⟩; have HB2 := Lib.hid (HB.out.trans (hb2.mono HB.out.size)); clear hb2 P25))
    all_goals go_ret
    all_goals exact ao_mk (by first | exact HV.out | (rw [← HV.out]; unfold wrap64; rfl)) HB2.out
  | oct r h hx =>
    obtain ⟨u2, hu2⟩ : ∃ u2, u2 = u.extract 1 u.size := ⟨_, rfl⟩
    have hl2 : u2.data.toList = r := by rw [hu2, ext_list, h]; rfl
    have hs2 : u2.size ≤ 1073741824 := by rw [hu2]; have := ext_size u 1; omega
    have h2i : (1 : Int) ≤ (u.size : Int) := by have := Lib.size_eq u; rw [h] at this; simp at this; omega
    have hsl2 : ∀ W, (Instr.slice 9 (.string u) (some (.int .i64 1)) none none).run Tryd.prog W = .ok (.string u2) W := fun W => by
      rw [hu2, run_slice_string_from_if W 9 u .i64 _ Tryd.underlying9, if_pos ⟨by omega, by omega⟩]
      rfl
    have H3 := Lib.hid (fun W => pre23 u ⟨#[48, 120]⟩ false (by rw [h]; show Lib.hasPrefix (48 :: r) [48, 120] = _; rw [pre_two]; exact decide_eq_false (fun e => hx (.inl e))) W)
    have H4 := Lib.hid (fun W => pre23 u ⟨#[48, 88]⟩ false (by rw [h]; show Lib.hasPrefix (48 :: r) [48, 88] = _; rw [pre_two]; exact decide_eq_false (fun e => hx (.inr e))) W)
    have H5 := Lib.hid (fun W => pre23 u ⟨#[48]⟩ true (by rw [h]; rfl) W)
    obtain ⟨z, hz⟩ : ∃ z, z = pi 8 (r) := ⟨_, rfl⟩
    have HV : Hid (z = atD t.data.toList) := Lib.hid (by rw [HA2.out, body_o h hx, ← hz])
    have P25 : Hid (∀ W, AtT W → Calls Tryd.prog 25 #[.string (u2), .int .i64 8, .int .i64 64] W (NumOut z W)) := Lib.hid fun W hW => by
      have h := parse25 8 (by decide) (by decide) (u2) (by exact hs2) W hW.er
      rw [hl2, ← hz] at h
      exact h
    clear hl2 h hx hz HA2 hu2 hs2 h2i
    go_enter Tryd.func15, Tryd.ntmps15
    go_wp2_with (first | (go_at_call 22; refine T22.out.mono ?_; rintro e w1 ⟨rfl, hb⟩; rw [ht22]; have HB := Lib.hid hb; have A1 := Lib.hid (HT.out.below hb); clear hb T22) | (go_at_call 23; refine (H1.out _).mono ?_; rintro e w' ⟨rfl, hw'⟩; have hw' := hw'.symm; subst hw') | (go_at_call 23; refine (H2.out _).mono ?_; rintro e w' ⟨rfl, hw'⟩; have hw' := hw'.symm; subst hw') | (go_at_call 23; refine (H3.out _).mono ?_; rintro e w' ⟨rfl, hw'⟩; have hw' := hw'.symm; subst hw') | (go_at_call 23; refine (H4.out _).mono ?_; rintro e w' ⟨rfl, hw'⟩; have hw' := hw'.symm; subst hw') | (go_at_call 23; refine (H5.out _).mono ?_; rintro e w' ⟨rfl, hw'⟩; have hw' := hw'.symm; subst hw') | (go_at_call 25; refine (P25.out _ A1.out).mono ?_; rintro e w2 ⟨⟨er, rfl⟩, hb2⟩; have HB2 := Lib.hid (HB.out.trans (hb2.mono HB.out.size)); clear hb2 P25))
    all_goals go_ret
    all_goals exact ao_mk (by first | exact HV.out | (rw [← HV.out]; unfold wrap64; rfl)) HB2.out
  | dec h hi =>
    have H3 := Lib.hid (fun W => pre23 u ⟨#[48, 120]⟩ false (by show Lib.hasPrefix _ [48, 120] = _; exact pre_not _ _ _ h) W)
    have H4 := Lib.hid (fun W => pre23 u ⟨#[48, 88]⟩ false (by show Lib.hasPrefix _ [48, 88] = _; exact pre_not _ _ _ h) W)
    have H5 := Lib.hid (fun W => pre23 u ⟨#[48]⟩ false (by show Lib.hasPrefix _ [48] = _; rw [pre_one]; exact decide_eq_false h) W)
    have CN := Lib.hid (fun W => cut24_none 35 u W hus hi)
    obtain ⟨z, hz⟩ : ∃ z, z = pi 10 (u.data.toList) := ⟨_, rfl⟩
    have HV : Hid (z = atD t.data.toList) := Lib.hid (by rw [HA2.out, body_d h hi, ← hz])
    have P25 : Hid (∀ W, AtT W → Calls Tryd.prog 25 #[.string (u), .int .i64 10, .int .i64 64] W (NumOut z W)) := Lib.hid fun W hW => by
      have h := parse25 10 (by decide) (by decide) (u) (by omega) W hW.er
      rw [← hz] at h
      exact h
    clear h hi hz HA2
    go_enter Tryd.func15, Tryd.ntmps15
    go_wp2_with (first | (go_at_call 22; refine T22.out.mono ?_; rintro e w1 ⟨rfl, hb⟩; rw [ht22]; have HB := Lib.hid hb; have A1 := Lib.hid (HT.out.below hb); clear hb T22) | (go_at_call 23; refine (H1.out _).mono ?_; rintro e w' ⟨rfl, hw'⟩; have hw' := hw'.symm; subst hw') | (go_at_call 23; refine (H2.out _).mono ?_; rintro e w' ⟨rfl, hw'⟩; have hw' := hw'.symm; subst hw') | (go_at_call 23; refine (H3.out _).mono ?_; rintro e w' ⟨rfl, hw'⟩; have hw' := hw'.symm; subst hw') | (go_at_call 23; refine (H4.out _).mono ?_; rintro e w' ⟨rfl, hw'⟩; have hw' := hw'.symm; subst hw') | (go_at_call 23; refine (H5.out _).mono ?_; rintro e w' ⟨rfl, hw'⟩; have hw' := hw'.symm; subst hw') | (go_at_call 24; refine (CN.out _).mono ?_; rintro e w' ⟨rfl, hw'⟩; subst hw') | (go_at_call 25; refine (P25.out _ A1.out).mono ?_; rintro e w2 ⟨⟨er, rfl⟩, hb2⟩; have HB2 := Lib.hid (HB.out.trans (hb2.mono HB.out.size)); clear hb2 P25))
    all_goals go_ret
    all_goals exact ao_mk (by first | exact HV.out | (rw [← HV.out]; unfold wrap64; rfl)) HB2.out
  | sep i h hi =>
    have H3 := Lib.hid (fun W => pre23 u ⟨#[48, 120]⟩ false (by show Lib.hasPrefix _ [48, 120] = _; exact pre_not _ _ _ h) W)
    have H4 := Lib.hid (fun W => pre23 u ⟨#[48, 88]⟩ false (by show Lib.hasPrefix _ [48, 88] = _; exact pre_not _ _ _ h) W)
    have H5 := Lib.hid (fun W => pre23 u ⟨#[48]⟩ false (by show Lib.hasPrefix _ [48] = _; rw [pre_one]; exact decide_eq_false h) W)
    obtain ⟨bb, hbb⟩ : ∃ bb, bb = u.extract 0 i := ⟨_, rfl⟩
    obtain ⟨aa, haa⟩ : ∃ aa, aa = u.extract (i + 1) u.size := ⟨_, rfl⟩
    have CS := Lib.hid (fun W => cut24_some 35 u W i hus hi bb aa (Lib.hid hbb) (Lib.hid haa))
    have hla : aa.data.toList = u.data.toList.drop (i + 1) := by rw [haa, ext_list]
    have hlb : bb.data.toList = u.data.toList.take i := by rw [hbb, cut_left]
    have has : aa.size ≤ 1073741824 := by rw [haa]; have := ext_size u (i + 1); omega
    have hbs : bb.size ≤ 1073741824 := by rw [hbb, ByteArray.size_extract]; omega
    have HS : Hid (body u.data.toList = sepV bb.data.toList aa.data.toList) := Lib.hid (by rw [hla, hlb]; exact body_s h hi)
    obtain ⟨nb, hnb⟩ : ∃ nb, nb = bas bb.data.toList := ⟨_, rfl⟩
    have B25 : Hid (∀ W, AtT W → Calls Tryd.prog 25 #[.string bb, .int .i64 10, .int .i64 8] W (BaseOut nb W)) := Lib.hid fun W hW => by rw [hnb]; exact base25 bb W hbs hW.er
    have HNB := Lib.hid hnb
    clear h hi hla hlb hbb haa hbs hnb
    go_enter Tryd.func15, Tryd.ntmps15
    go_wp2_with (first | (go_at_call 22; refine T22.out.mono ?_; rintro e w1 ⟨rfl, hb⟩; rw [ht22]; have HB := Lib.hid hb; have A1 := Lib.hid (HT.out.below hb); clear hb T22) | (go_at_call 23; refine (H1.out _).mono ?_; rintro e w' ⟨rfl, hw'⟩; have hw' := hw'.symm; subst hw') | (go_at_call 23; refine (H2.out _).mono ?_; rintro e w' ⟨rfl, hw'⟩; have hw' := hw'.symm; subst hw') | (go_at_call 23; refine (H3.out _).mono ?_; rintro e w' ⟨rfl, hw'⟩; have hw' := hw'.symm; subst hw') | (go_at_call 23; refine (H4.out _).mono ?_; rintro e w' ⟨rfl, hw'⟩; have hw' := hw'.symm; subst hw') | (go_at_call 23; refine (H5.out _).mono ?_; rintro e w' ⟨rfl, hw'⟩; have hw' := hw'.symm; subst hw') | (go_at_call 24; refine (CS.out _).mono ?_; rintro e w' ⟨rfl, dn, hw'⟩; have A2 := Lib.hid (A1.out.below (by rw [hw']; exact ⟨rfl, rfl, rfl, Nat.le_refl _, fun _ _ => rfl⟩) : AtT w'); have HB1 : Hid (Below w.heap.size w w') := Lib.hid (by rw [hw']; exact HB.out.trans ⟨rfl, rfl, rfl, Nat.le_refl _, fun _ _ => rfl⟩); clear hw' CS))
    refine (B25.out _ A2.out).mono ?_
    rintro e w3 ⟨⟨v, er, rfl, hver⟩, hb3⟩
    have A3 := Lib.hid (A2.out.below hb3)
    have HB3 := Lib.hid (HB1.out.trans (hb3.mono HB1.out.size))
    clear hb3 B25
    have HZ0 : nb = 0 → atD t.data.toList = 0 := fun hn0 => by
      rw [HA2.out, HS.out]
      unfold sepV
      rw [if_pos (HNB.out.symm.trans hn0)]
      skip
    rcases hver with ⟨rfl, hn⟩ | ⟨⟨te, pe, rfl⟩, hn0⟩
    · by_cases hr : 2 ≤ v ∧ v ≤ 64
      · rw [if_pos hr] at hn
        have hvn : v = (nb : Int) := by omega
        have r1 : (2 : Int) ≤ (nb : Int) := by omega
        have r2 : (nb : Int) ≤ 64 := by omega
        have e0 : ¬ bas bb.data.toList = 0 := by rw [← HNB.out]; omega
        clear hn HZ0
        subst hvn
        clear hr
        by_cases hg : (36 : Int) < (nb : Int)
        · obtain ⟨z, hz⟩ : ∃ z, z = lg nb 0 aa.data.toList := ⟨_, rfl⟩
          have HV : Hid (z = atD t.data.toList) := Lib.hid (by rw [HA2.out, HS.out]; unfold sepV; rw [if_neg e0, if_pos (by rw [← HNB.out]; omega), ← HNB.out, ← hz])
          have L26 : Hid (∀ W, Calls Tryd.prog 26 #[.string aa, .int .i64 (nb : Int)] W fun e w' => e = .returned (.int .i64 z) ∧ w' = W) := Lib.hid fun W => by rw [hz]; exact large26 nb (by omega) (by omega) aa has W
          skip
          clear hz HA2 HS HNB e0
          go_wp2_with (go_at_call 26; refine (L26.out _).mono ?_; rintro e w' ⟨rfl, hw'⟩; have hw' := hw'.symm; subst hw')
          all_goals go_ret
          all_goals exact ao_mk (by first | exact HV.out | (rw [← HV.out]; unfold wrap64; rfl)) HB3.out
        · obtain ⟨z, hz⟩ : ∃ z, z = pi nb aa.data.toList := ⟨_, rfl⟩
          have HV : Hid (z = atD t.data.toList) := Lib.hid (by rw [HA2.out, HS.out]; unfold sepV; rw [if_neg e0, if_neg (by rw [← HNB.out]; omega), ← HNB.out, ← hz])
          have P25 : Hid (∀ W, AtT W → Calls Tryd.prog 25 #[.string aa, .int .i64 (nb : Int), .int .i64 64] W (NumOut z W)) := Lib.hid fun W hW => by rw [hz]; exact parse25 nb (by omega) (by omega) aa has W hW.er
          skip
          clear hz HA2 HS HNB e0
          go_wp2_with (go_at_call 25; refine (P25.out _ A3.out).mono ?_; rintro e w2 ⟨⟨er, rfl⟩, hb2⟩; have HB2 := Lib.hid (HB3.out.trans (hb2.mono HB3.out.size)); clear hb2 P25)
          all_goals go_ret
          all_goals exact ao_mk (by first | exact HV.out | (rw [← HV.out]; unfold wrap64; rfl)) HB2.out
      · rw [if_neg hr] at hn
        have HV := Lib.hid (HZ0 hn).symm
        have hr' : v < 2 ∨ 64 < v := by omega
        clear hr HZ0 HA2 HS HNB hn
        rcases hr' with hr' | hr'
        · go_wp2
          all_goals go_ret
          all_goals exact ao_mk HV.out HB3.out
        · go_wp2
          all_goals go_ret
          all_goals exact ao_mk HV.out HB3.out
    · have HV := Lib.hid (HZ0 hn0).symm
      clear HZ0 HA2 HS HNB hn0
      go_wp2
      all_goals go_ret
      all_goals exact ao_mk HV.out HB3.out

end Go.Proofs.YtopaaaacbegmnaaDoor
