/-
  The walk of atoi: it hands back atD of the trimmed text (printed by genat.py). Conditions: those in each theorem.
-/
import Derived.Test.YtopaaaacbegmnaaDoorBa
namespace Go.Proofs.YtopaaaacbegmnaaDoor
set_option linter.unusedVariables false
open Go.Shelf Go.RowKit Go.Lib

theorem ext_list (t : ByteArray) (i : Nat) : (t.extract i t.size).data.toList = t.data.toList.drop i := by
  rw [Lib.extract_data, List.take_of_length_le]
  rw [List.length_drop, Lib.size_eq]; exact Nat.le_refl _
theorem ext_size (t : ByteArray) (i : Nat) : (t.extract i t.size).size ≤ t.size := by rw [ByteArray.size_extract]; omega
theorem cut_left (t : ByteArray) (i : Nat) : (t.extract 0 i).data.toList = t.data.toList.take i := by
  rw [Lib.extract_data, List.drop_zero, Nat.sub_zero]
theorem body_x {u r : List UInt8} {x : UInt8} (h : u = 48 :: x :: r) (hx : x = 120 ∨ x = 88) : body u = pi 16 r := by
  subst h
  rcases hx with rfl | rfl <;> rfl
theorem body_o {u r : List UInt8} (h : u = 48 :: r) (hx : ¬ (r.head? = some 120 ∨ r.head? = some 88)) : body u = pi 8 r := by
  subst h
  unfold body
  rw [if_pos (show (48 :: r).head? = some 48 from rfl), if_neg (show ¬ ((List.drop 1 (48 :: r)).head? = some 120 ∨ (List.drop 1 (48 :: r)).head? = some 88) from hx)]; rfl
theorem body_d {u : List UInt8} (h : ¬ u.head? = some 48) (hi : indexByte u 35 = -1) : body u = pi 10 u := by
  unfold body
  rw [if_neg h, if_pos (by omega)]
theorem body_s {u : List UInt8} {i : Nat} (h : ¬ u.head? = some 48) (hi : indexByte u 35 = i) : body u = sepV (u.take i) (u.drop (i + 1)) := by
  unfold body
  rw [if_neg h, if_neg (by omega), hi, Int.toNat_natCast]
theorem at_plus {t r : List UInt8} (h : t = 43 :: r) : atD t = body r := by subst h; rfl
theorem at_minus {t r : List UInt8} (h : t = 45 :: r) : atD t = wrap64 (-body r) := by subst h; rfl
theorem at_none {t : List UInt8} (h1 : ¬ t.head? = some 43) (h2 : ¬ t.head? = some 45) : atD t = body t := by
  unfold atD
  rw [if_neg h1, if_neg h2]
theorem pre_one (t : List UInt8) (x : UInt8) : Lib.hasPrefix t [x] = decide (t.head? = some x) := by
  cases t with
  | nil => rfl
  | cons c r =>
    unfold Lib.hasPrefix
    by_cases h : x = c
    · simp [List.isPrefixOf, h]
    · simp [List.isPrefixOf, h, Ne.symm h]
theorem pre_two (r : List UInt8) (c x : UInt8) : Lib.hasPrefix (c :: r) [c, x] = decide (r.head? = some x) := by
  unfold Lib.hasPrefix
  cases r with
  | nil => simp [List.isPrefixOf]
  | cons d r =>
    by_cases h : x = d
    · simp [List.isPrefixOf, h]
    · simp [List.isPrefixOf, h, Ne.symm h]
theorem pre_not (t : List UInt8) (x y : UInt8) (h : ¬ t.head? = some x) : Lib.hasPrefix t [x, y] = false := by
  unfold Lib.hasPrefix
  cases t with
  | nil => rfl
  | cons c r =>
    simp only [List.head?_cons, Option.some.injEq] at h
    simp [List.isPrefixOf, Ne.symm h]

/-- the four ways of the text behind the sign -/
inductive Way (u : List UInt8) : Prop where
  | hex (r : List UInt8) (h : u = 48 :: 120 :: r)
  | heX (r : List UInt8) (h : u = 48 :: 88 :: r)
  | oct (r : List UInt8) (h : u = 48 :: r) (hx : ¬ (r.head? = some 120 ∨ r.head? = some 88))
  | dec (h : ¬ u.head? = some 48) (hi : indexByte u 35 = -1)
  | sep (i : Nat) (h : ¬ u.head? = some 48) (hi : indexByte u 35 = i)
theorem way (u : List UInt8) : Way u := by
  by_cases h : u.head? = some 48
  · obtain ⟨r, rfl⟩ : ∃ r, u = 48 :: r := by
      cases u with
      | nil => cases h
      | cons c r => exact ⟨r, by simp at h; rw [h]⟩
    by_cases h1 : r.head? = some 120
    · obtain ⟨q, rfl⟩ : ∃ q, r = 120 :: q := by
        cases r with
        | nil => cases h1
        | cons c q => exact ⟨q, by simp at h1; rw [h1]⟩
      exact .hex q rfl
    · by_cases h2 : r.head? = some 88
      · obtain ⟨q, rfl⟩ : ∃ q, r = 88 :: q := by
          cases r with
          | nil => cases h2
          | cons c q => exact ⟨q, by simp at h2; rw [h2]⟩
        exact .heX q rfl
      · exact .oct r rfl (by rintro (e | e) <;> contradiction)
  · by_cases hi : indexByte u 35 = -1
    · exact .dec h hi
    · exact .sep (indexByte u 35).toNat h (by have := indexByte_ge u 35; omega)

/-- what atoi hands back -/
def AtOut (v : Int) (w : World) (e : Ending) (w' : World) : Prop := e = .returned (.int .i64 v) ∧ Below w.heap.size w w'
theorem ao_mk {n v : Int} {w w' : World} (h : n = v) (hb : Below w.heap.size w w') : AtOut v w (.returned (.int .i64 n)) w' := ⟨by rw [h], hb⟩

set_option maxHeartbeats 8000000 in
set_option maxRecDepth 100000 in
theorem atoi_none (s t : ByteArray) (w : World) (hT : AtT w) (hss : s.size ≤ 1073741824) (hts : t.size ≤ 1073741824) (ht22 : (⟨(Lib.trimSpaceD s.data.toList).toArray⟩ : ByteArray) = t) (hn1 : ¬ t.data.toList.head? = some 43) (hn2 : ¬ t.data.toList.head? = some 45) :
    Calls Tryd.prog 15 #[.string s] w (AtOut (atD t.data.toList) w) := by
  have HT := Lib.hid hT
  have T22 := Lib.hid (trim22 s w hss hT)
  clear hT
  have HA := Lib.hid (at_none hn1 hn2)
  obtain ⟨u, hu⟩ : ∃ u, t = u := ⟨_, rfl⟩
  have hus : u.size ≤ 1073741824 := by rw [← hu]; exact hts
  have HA2 : Hid (atD t.data.toList = body u.data.toList) := by rw [← hu]; exact HA
  have H1 := Lib.hid (fun W => pre23 t ⟨#[43]⟩ false (by show Lib.hasPrefix _ [43] = _; rw [pre_one]; exact decide_eq_false hn1) W)
  have H2 := Lib.hid (fun W => pre23 t ⟨#[45]⟩ false (by show Lib.hasPrefix _ [45] = _; rw [pre_one]; exact decide_eq_false hn2) W)
  clear HA hn1 hn2
  subst hu
  cases way t.data.toList with
  | hex r h =>
    obtain ⟨u2, hu2⟩ : ∃ u2, u2 = t.extract 2 t.size := ⟨_, rfl⟩
    have hl2 : u2.data.toList = r := by rw [hu2, ext_list, h]; rfl
    have hs2 : u2.size ≤ 1073741824 := by rw [hu2]; have := ext_size t 2; omega
    have h2i : (2 : Int) ≤ (t.size : Int) := by have := Lib.size_eq t; rw [h] at this; simp at this; omega
    have hsl2 : ∀ W, (Instr.slice 9 (.string t) (some (.int .i64 2)) none none).run Tryd.prog W = .ok (.string u2) W := fun W => by
      rw [hu2, run_slice_string_from_if W 9 t .i64 _ Tryd.underlying9, if_pos ⟨by omega, by omega⟩]
      rfl
    have H3 := Lib.hid (fun W => pre23 t ⟨#[48, 120]⟩ true (by rw [h]; rfl) W)
    have H4 := Lib.hid (fun W => pre23 t ⟨#[48, 88]⟩ false (by rw [h]; rfl) W)
    obtain ⟨z, hz⟩ : ∃ z, z = pi 16 (r) := ⟨_, rfl⟩
    have HV : Hid (z = atD t.data.toList) := Lib.hid (by rw [HA2.out, body_x h (.inl rfl), ← hz])
    have P25 : Hid (∀ W, AtT W → Calls Tryd.prog 25 #[.string (u2), .int .i64 16, .int .i64 64] W (NumOut z W)) := Lib.hid fun W hW => by
      have h := parse25 16 (by decide) (by decide) (u2) (by exact hs2) W hW.er
      rw [hl2, ← hz] at h
      exact h
    clear hl2 h hz HA2 hu2 hs2 h2i
    go_enter Tryd.func15, Tryd.ntmps15
    go_wp2_with (first | (go_at_call 22; refine T22.out.mono ?_; rintro e w1 ⟨rfl, hb⟩; rw [ht22]; have HB := Lib.hid hb; have A1 := Lib.hid (HT.out.below hb); clear hb T22) | (go_at_call 23; refine (H1.out _).mono ?_; rintro e w' ⟨rfl, hw'⟩; have hw' := hw'.symm; subst hw') | (go_at_call 23; refine (H2.out _).mono ?_; rintro e w' ⟨rfl, hw'⟩; have hw' := hw'.symm; subst hw') | (go_at_call 23; refine (H3.out _).mono ?_; rintro e w' ⟨rfl, hw'⟩; have hw' := hw'.symm; subst hw') | (go_at_call 23; refine (H4.out _).mono ?_; rintro e w' ⟨rfl, hw'⟩; have hw' := hw'.symm; subst hw') | (go_at_call 25; refine (P25.out _ A1.out).mono ?_; rintro e w2 ⟨⟨er, rfl⟩, hb2⟩; have HB2 := Lib.hid (HB.out.trans (hb2.mono HB.out.size)); clear hb2 P25))
    all_goals go_ret
    all_goals exact ao_mk (by first | exact HV.out | (rw [← HV.out]; unfold wrap64; rfl)) HB2.out
  | heX r h =>
    obtain ⟨u2, hu2⟩ : ∃ u2, u2 = t.extract 2 t.size := ⟨_, rfl⟩
    have hl2 : u2.data.toList = r := by rw [hu2, ext_list, h]; rfl
    have hs2 : u2.size ≤ 1073741824 := by rw [hu2]; have := ext_size t 2; omega
    have h2i : (2 : Int) ≤ (t.size : Int) := by have := Lib.size_eq t; rw [h] at this; simp at this; omega
    have hsl2 : ∀ W, (Instr.slice 9 (.string t) (some (.int .i64 2)) none none).run Tryd.prog W = .ok (.string u2) W := fun W => by
      rw [hu2, run_slice_string_from_if W 9 t .i64 _ Tryd.underlying9, if_pos ⟨by omega, by omega⟩]
      rfl
    have H3 := Lib.hid (fun W => pre23 t ⟨#[48, 120]⟩ false (by rw [h]; rfl) W)
    have H4 := Lib.hid (fun W => pre23 t ⟨#[48, 88]⟩ true (by rw [h]; rfl) W)
    obtain ⟨z, hz⟩ : ∃ z, z = pi 16 (r) := ⟨_, rfl⟩
    have HV : Hid (z = atD t.data.toList) := Lib.hid (by rw [HA2.out, body_x h (.inr rfl), ← hz])
    have P25 : Hid (∀ W, AtT W → Calls Tryd.prog 25 #[.string (u2), .int .i64 16, .int .i64 64] W (NumOut z W)) := Lib.hid fun W hW => by
      have h := parse25 16 (by decide) (by decide) (u2) (by exact hs2) W hW.er
      rw [hl2, ← hz] at h
      exact h
    clear hl2 h hz HA2 hu2 hs2 h2i
    go_enter Tryd.func15, Tryd.ntmps15
    go_wp2_with (first | (go_at_call 22; refine T22.out.mono ?_; rintro e w1 ⟨rfl, hb⟩; rw [ht22]; have HB := Lib.hid hb; have A1 := Lib.hid (HT.out.below hb); clear hb T22) | (go_at_call 23; refine (H1.out _).mono ?_; rintro e w' ⟨rfl, hw'⟩; have hw' := hw'.symm; subst hw') | (go_at_call 23; refine (H2.out _).mono ?_; rintro e w' ⟨rfl, hw'⟩; have hw' := hw'.symm; subst hw') | (go_at_call 23; refine (H3.out _).mono ?_; rintro e w' ⟨rfl, hw'⟩; have hw' := hw'.symm; subst hw') | (go_at_call 23; refine (H4.out _).mono ?_; rintro e w' ⟨rfl, hw'⟩; have hw' := hw'.symm; subst hw') | (go_at_call 25; refine (P25.out _ A1.out).mono ?_; rintro e w2 ⟨⟨er, rfl⟩, hb2⟩; have HB2 := Lib.hid (HB.out.trans (hb2.mono HB.out.size)); clear hb2 P25))
    all_goals go_ret
    all_goals exact ao_mk (by first | exact HV.out | (rw [← HV.out]; unfold wrap64; rfl)) HB2.out
  | oct r h hx =>
    obtain ⟨u2, hu2⟩ : ∃ u2, u2 = t.extract 1 t.size := ⟨_, rfl⟩
    have hl2 : u2.data.toList = r := by rw [hu2, ext_list, h]; rfl
    have hs2 : u2.size ≤ 1073741824 := by rw [hu2]; have := ext_size t 1; omega
    have h2i : (1 : Int) ≤ (t.size : Int) := by have := Lib.size_eq t; rw [h] at this; simp at this; omega
    have hsl2 : ∀ W, (Instr.slice 9 (.string t) (some (.int .i64 1)) none none).run Tryd.prog W = .ok (.string u2) W := fun W => by
      rw [hu2, run_slice_string_from_if W 9 t .i64 _ Tryd.underlying9, if_pos ⟨by omega, by omega⟩]
      rfl
    have H3 := Lib.hid (fun W => pre23 t ⟨#[48, 120]⟩ false (by rw [h]; show Lib.hasPrefix (48 :: r) [48, 120] = _; rw [pre_two]; exact decide_eq_false (fun e => hx (.inl e))) W)
    have H4 := Lib.hid (fun W => pre23 t ⟨#[48, 88]⟩ false (by rw [h]; show Lib.hasPrefix (48 :: r) [48, 88] = _; rw [pre_two]; exact decide_eq_false (fun e => hx (.inr e))) W)
    have H5 := Lib.hid (fun W => pre23 t ⟨#[48]⟩ true (by rw [h]; rfl) W)
    obtain ⟨z, hz⟩ : ∃ z, z = pi 8 (r) := ⟨_, rfl⟩
    have HV : Hid (z = atD t.data.toList) := Lib.hid (by rw [HA2.out, body_o h hx, ← hz])
    have P25 : Hid (∀ W, AtT W → Calls Tryd.prog 25 #[.string (u2), .int .i64 8, .int .i64 64] W (NumOut z W)) := Lib.hid fun W hW => by
      have h := parse25 8 (by decide) (by decide) (u2) (by exact hs2) W hW.er
      rw [hl2, ← hz] at h
      exact h
    clear hl2 h hx hz HA2 hu2 hs2 h2i
    go_enter Tryd.func15, Tryd.ntmps15
    go_wp2_with (first | (go_at_call 22; refine T22.out.mono ?_; rintro e w1 ⟨rfl, hb⟩; rw [ht22]; have HB := Lib.hid hb; have A1 := Lib.hid (HT.out.below hb); clear hb T22) | (go_at_call 23; refine (H1.out _).mono ?_; rintro e w' ⟨rfl, hw'⟩; have hw' := hw'.symm; subst hw') | (go_at_call 23; refine (H2.out _).mono ?_; rintro e w' ⟨rfl, hw'⟩; have hw' := hw'.symm; subst hw') | (go_at_call 23; refine (H3.out _).mono ?_; rintro e w' ⟨rfl, hw'⟩; have hw' := hw'.symm; subst hw') | (go_at_call 23; refine (H4.out _).mono ?_; rintro e w' ⟨rfl, hw'⟩; have hw' := hw'.symm; subst hw') | (go_at_call 23; refine (H5.out _).mono ?_; rintro e w' ⟨rfl, hw'⟩; have hw' := hw'.symm; subst hw') | (go_at_call 25; refine (P25.out _ A1.out).mono ?_; rintro e w2 ⟨⟨er, rfl⟩, hb2⟩; have HB2 := Lib.hid (HB.out.trans (hb2.mono HB.out.size)); clear hb2 P25))
    all_goals go_ret
    all_goals exact ao_mk (by first | exact HV.out | (rw [← HV.out]; unfold wrap64; rfl)) HB2.out
  | dec h hi =>
    have H3 := Lib.hid (fun W => pre23 t ⟨#[48, 120]⟩ false (by show Lib.hasPrefix _ [48, 120] = _; exact pre_not _ _ _ h) W)
    have H4 := Lib.hid (fun W => pre23 t ⟨#[48, 88]⟩ false (by show Lib.hasPrefix _ [48, 88] = _; exact pre_not _ _ _ h) W)
    have H5 := Lib.hid (fun W => pre23 t ⟨#[48]⟩ false (by show Lib.hasPrefix _ [48] = _; rw [pre_one]; exact decide_eq_false h) W)
    have CN := Lib.hid (fun W => cut24_none 35 t W hus hi)
    obtain ⟨z, hz⟩ : ∃ z, z = pi 10 (t.data.toList) := ⟨_, rfl⟩
    have HV : Hid (z = atD t.data.toList) := Lib.hid (by rw [HA2.out, body_d h hi, ← hz])
    have P25 : Hid (∀ W, AtT W → Calls Tryd.prog 25 #[.string (t), .int .i64 10, .int .i64 64] W (NumOut z W)) := Lib.hid fun W hW => by
      have h := parse25 10 (by decide) (by decide) (t) (by omega) W hW.er
      rw [← hz] at h
      exact h
    clear h hi hz HA2
    go_enter Tryd.func15, Tryd.ntmps15
    go_wp2_with (first | (go_at_call 22; refine T22.out.mono ?_; rintro e w1 ⟨rfl, hb⟩; rw [ht22]; have HB := Lib.hid hb; have A1 := Lib.hid (HT.out.below hb); clear hb T22) | (go_at_call 23; refine (H1.out _).mono ?_; rintro e w' ⟨rfl, hw'⟩; have hw' := hw'.symm; subst hw') | (go_at_call 23; refine (H2.out _).mono ?_; rintro e w' ⟨rfl, hw'⟩; have hw' := hw'.symm; subst hw') | (go_at_call 23; refine (H3.out _).mono ?_; rintro e w' ⟨rfl, hw'⟩; have hw' := hw'.symm; subst hw') | (go_at_call 23; refine (H4.out _).mono ?_; rintro e w' ⟨rfl, hw'⟩; have hw' := hw'.symm; subst hw') | (go_at_call 23; refine (H5.out _).mono ?_; rintro e w' ⟨rfl, hw'⟩; have hw' := hw'.symm; subst hw') | (go_at_call 24; refine (CN.out _).mono ?_; rintro e w' ⟨rfl, hw'⟩; subst hw') | (go_at_call 25; refine (P25.out _ A1.out).mono ?_; rintro e w2 ⟨⟨er, rfl⟩, hb2⟩; have HB2 := Lib.hid (HB.out.trans (hb2.mono HB.out.size)); clear hb2 P25))
    all_goals go_ret
    all_goals exact ao_mk (by first | exact HV.out | (rw [← HV.out]; unfold wrap64; rfl)) HB2.out
  | sep i h hi =>
    have H3 := Lib.hid (fun W => pre23 t ⟨#[48, 120]⟩ false (by show Lib.hasPrefix _ [48, 120] = _; exact pre_not _ _ _ h) W)
    have H4 := Lib.hid (fun W => pre23 t ⟨#[48, 88]⟩ false (by show Lib.hasPrefix _ [48, 88] = _; exact pre_not _ _ _ h) W)
    have H5 := Lib.hid (fun W => pre23 t ⟨#[48]⟩ false (by show Lib.hasPrefix _ [48] = _; rw [pre_one]; exact decide_eq_false h) W)
    obtain ⟨bb, hbb⟩ : ∃ bb, bb = t.extract 0 i := ⟨_, rfl⟩
    obtain ⟨aa, haa⟩ : ∃ aa, aa = t.extract (i + 1) t.size := ⟨_, rfl⟩
    have CS := Lib.hid (fun W => cut24_some 35 t W i hus hi bb aa (Lib.hid hbb) (Lib.hid haa))
    have hla : aa.data.toList = t.data.toList.drop (i + 1) := by rw [haa, ext_list]
    have hlb : bb.data.toList = t.data.toList.take i := by rw [hbb, cut_left]
    have has : aa.size ≤ 1073741824 := by rw [haa]; have := ext_size t (i + 1); omega
    have hbs : bb.size ≤ 1073741824 := by rw [hbb, ByteArray.size_extract]; omega
    have HS : Hid (body t.data.toList = sepV bb.data.toList aa.data.toList) := Lib.hid (by rw [hla, hlb]; exact body_s h hi)
    obtain ⟨nb, hnb⟩ : ∃ nb, nb = bas bb.data.toList := ⟨_, rfl⟩
    have B25 : Hid (∀ W, AtT W → Calls Tryd.prog 25 #[.string bb, .int .i64 10, .int .i64 8] W (BaseOut nb W)) := Lib.hid fun W hW => by rw [hnb]; exact base25 bb W hbs hW.er
    have HNB := Lib.hid hnb
    clear h hi hla hlb hbb haa hbs hnb
    go_enter Tryd.func15, Tryd.ntmps15
    go_wp2_with (first | (go_at_call 22; refine T22.out.mono ?_; rintro e w1 ⟨rfl, hb⟩; rw [ht22]; have HB := Lib.hid hb; have A1 := Lib.hid (HT.out.below hb); clear hb T22) | (go_at_call 23; refine (H1.out _).mono ?_; rintro e w' ⟨rfl, hw'⟩; have hw' := hw'.symm; subst hw') | (go_at_call 23; refine (H2.out _).mono ?_; rintro e w' ⟨rfl, hw'⟩; have hw' := hw'.symm; subst hw') | (go_at_call 23; refine (H3.out _).mono ?_; rintro e w' ⟨rfl, hw'⟩; have hw' := hw'.symm; subst hw') | (go_at_call 23; refine (H4.out _).mono ?_; rintro e w' ⟨rfl, hw'⟩; have hw' := hw'.symm; subst hw') | (go_at_call 23; refine (H5.out _).mono ?_; rintro e w' ⟨rfl, hw'⟩; have hw' := hw'.symm; subst hw') | (go_at_call 24; refine (CS.out _).mono ?_; rintro e w' ⟨rfl, dn, hw'⟩; have A2 := Lib.hid (A1.out.below (by rw [hw']; exact ⟨rfl, rfl, rfl, Nat.le_refl _, fun _ _ => rfl⟩) : AtT w'); have HB1 : Hid (Below w.heap.size w w') := Lib.hid (by rw [hw']; exact HB.out.trans ⟨rfl, rfl, rfl, Nat.le_refl _, fun _ _ => rfl⟩); clear hw' CS))
    refine (B25.out _ A2.out).mono ?_
    rintro e w3 ⟨⟨v, er, rfl, hver⟩, hb3⟩
    have A3 := Lib.hid (A2.out.below hb3)
    have HB3 := Lib.hid (HB1.out.trans (hb3.mono HB1.out.size))
    clear hb3 B25
    have HZ0 : nb = 0 → atD t.data.toList = 0 := fun hn0 => by
      rw [HA2.out, HS.out]
      unfold sepV
      rw [if_pos (HNB.out.symm.trans hn0)]
      skip
    rcases hver with ⟨rfl, hn⟩ | ⟨⟨te, pe, rfl⟩, hn0⟩
    · by_cases hr : 2 ≤ v ∧ v ≤ 64
      · rw [if_pos hr] at hn
        have hvn : v = (nb : Int) := by omega
        have r1 : (2 : Int) ≤ (nb : Int) := by omega
        have r2 : (nb : Int) ≤ 64 := by omega
        have e0 : ¬ bas bb.data.toList = 0 := by rw [← HNB.out]; omega
        clear hn HZ0
        subst hvn
        clear hr
        by_cases hg : (36 : Int) < (nb : Int)
        · obtain ⟨z, hz⟩ : ∃ z, z = lg nb 0 aa.data.toList := ⟨_, rfl⟩
          have HV : Hid (z = atD t.data.toList) := Lib.hid (by rw [HA2.out, HS.out]; unfold sepV; rw [if_neg e0, if_pos (by rw [← HNB.out]; omega), ← HNB.out, ← hz])
          have L26 : Hid (∀ W, Calls Tryd.prog 26 #[.string aa, .int .i64 (nb : Int)] W fun e w' => e = .returned (.int .i64 z) ∧ w' = W) := Lib.hid fun W => by rw [hz]; exact large26 nb (by omega) (by omega) aa has W
          skip
          clear hz HA2 HS HNB e0
          go_wp2_with (go_at_call 26; refine (L26.out _).mono ?_; rintro e w' ⟨rfl, hw'⟩; have hw' := hw'.symm; subst hw')
          all_goals go_ret
          all_goals exact ao_mk (by first | exact HV.out | (rw [← HV.out]; unfold wrap64; rfl)) HB3.out
        · obtain ⟨z, hz⟩ : ∃ z, z = pi nb aa.data.toList := ⟨_, rfl⟩
          have HV : Hid (z = atD t.data.toList) := Lib.hid (by rw [HA2.out, HS.out]; unfold sepV; rw [if_neg e0, if_neg (by rw [← HNB.out]; omega), ← HNB.out, ← hz])
          have P25 : Hid (∀ W, AtT W → Calls Tryd.prog 25 #[.string aa, .int .i64 (nb : Int), .int .i64 64] W (NumOut z W)) := Lib.hid fun W hW => by rw [hz]; exact parse25 nb (by omega) (by omega) aa has W hW.er
          skip
          clear hz HA2 HS HNB e0
          go_wp2_with (go_at_call 25; refine (P25.out _ A3.out).mono ?_; rintro e w2 ⟨⟨er, rfl⟩, hb2⟩; have HB2 := Lib.hid (HB3.out.trans (hb2.mono HB3.out.size)); clear hb2 P25)
          all_goals go_ret
          all_goals exact ao_mk (by first | exact HV.out | (rw [← HV.out]; unfold wrap64; rfl)) HB2.out
      · rw [if_neg hr] at hn
        have HV := Lib.hid (HZ0 hn).symm
        have hr' : v < 2 ∨ 64 < v := by omega
        clear hr HZ0 HA2 HS HNB hn
        rcases hr' with hr' | hr'
        · go_wp2
          all_goals go_ret
          all_goals exact ao_mk HV.out HB3.out
        · go_wp2
          all_goals go_ret
          all_goals exact ao_mk HV.out HB3.out
    · have HV := Lib.hid (HZ0 hn0).symm
      clear HZ0 HA2 HS HNB hn0
      go_wp2
      all_goals go_ret
      all_goals exact ao_mk HV.out HB3.out

end Go.Proofs.YtopaaaacbegmnaaDoor
