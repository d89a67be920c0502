/-
  The walks of zzIndex at one byte, zzReplaceAll of NUL bytes by nothing, zzTrimRight of newlines. Conditions: those in each theorem.
-/
import Derived.Test.YtonhphjejlidiaaBuf2
import Derived.Test.YtonhphjejlidiaaCsP
import Derived.WalkSpells
import Derived.Deep.QuietTactic
import Derived.BigQuiet
import Derived.Deep.LoopGhost
import Derived.Lib.AppendStr
import Derived.Lib.UnsafeStr
import Derived.Lib.IndexBytes
namespace Go.Proofs.Ytonhphjejlidiaa
set_option linter.unusedVariables false
open Go.Shelf Go.RowKit Go.Lib

/-- what zzIndex answers for a NUL -/
def IdxSay (s : ByteArray) (e : Ending) : Prop := ∃ r : Int, e = .returned (.int .i64 r) ∧ ((r = -1 ∧ ∀ j, j < s.size → s.data.toList[j]? ≠ some 0) ∨ ∃ i : Nat, r = i ∧ i < s.size ∧ (∀ j, j < i → s.data.toList[j]? ≠ some 0) ∧ s.data.toList[i]? = some 0)
theorem is_no {s : ByteArray} {e : Ending} (h : e = .returned (.int .i64 (-1))) (g : ∀ j, j < s.size → s.data.toList[j]? ≠ some 0) : IdxSay s e := ⟨-1, h, .inl ⟨rfl, g⟩⟩
theorem is_yes {s : ByteArray} {i : Nat} {e : Ending} (h : e = .returned (.int .i64 (i : Int))) (hi : i < s.size) (g : ∀ j, j < i → s.data.toList[j]? ≠ some 0) (h0 : s.data.toList[i]? = some 0) : IdxSay s e := ⟨i, h, .inr ⟨i, rfl, hi, g, h0⟩⟩
theorem first_nul (s : ByteArray) : ∀ n, n ≤ s.size → (∀ j, j < n → s.data.toList[j]? ≠ some 0) ∨ ∃ i, i < n ∧ (∀ j, j < i → s.data.toList[j]? ≠ some 0) ∧ s.data.toList[i]? = some 0
  | 0, _ => .inl fun j hj => absurd hj (Nat.not_lt_zero _)
  | n + 1, h => by
    rcases first_nul s n (by omega) with h1 | ⟨i, hi, h2, h3⟩
    · by_cases c : s.data.toList[n]? = some 0
      · exact .inr ⟨n, by omega, h1, c⟩
      · refine .inl fun j hj => ?_
        by_cases e : j = n
        · subst e; exact c
        · exact h1 j (by omega)
    · exact .inr ⟨i, by omega, h2, h3⟩
theorem noNul_all {l : List UInt8} (g : ∀ j, j < l.length → l[j]? ≠ some 0) : noNul l = l := by
  unfold noNul
  rw [List.filter_eq_self]
  intro c hc
  obtain ⟨i, hi, hx⟩ := List.mem_iff_getElem.1 hc
  have := g i hi
  rw [List.getElem?_eq_getElem hi, hx] at this
  simpa using this
theorem noNul_at {s : ByteArray} {i : Nat} (hi : i < s.size) (g : ∀ j, j < i → s.data.toList[j]? ≠ some 0) (h0 : s.data.toList[i]? = some 0) : noNul s.data.toList = (s.extract 0 i).data.toList ++ noNul (s.extract (i + 1) s.size).data.toList := by
  have hl : s.data.toList.length = s.size := by simp
  have e1 : (s.extract 0 i).data.toList = s.data.toList.take i := by
    rw [ByteArray.data_extract, Array.toList_extract, List.extract_eq_take_drop]; simp
  have e2 : (s.extract (i + 1) s.size).data.toList = s.data.toList.drop (i + 1) := by
    rw [ByteArray.data_extract, Array.toList_extract, List.extract_eq_take_drop, List.take_of_length_le (by simp)]
  have e3 : s.data.toList = s.data.toList.take i ++ 0 :: s.data.toList.drop (i + 1) := by
    rw [List.getElem?_eq_getElem (by omega)] at h0
    rw [← Option.some.inj h0, List.getElem_cons_drop, List.take_append_drop]
  have e4 : noNul (s.data.toList.take i) = s.data.toList.take i := noNul_all fun j hj => by
    rw [List.length_take] at hj
    rw [List.getElem?_take_of_lt (by omega)]
    exact g j (by omega)
  rw [e1, e2, ← e4]
  conv => lhs; rw [e3]
  unfold noNul
  rw [List.filter_append]
  simp

set_option maxRecDepth 20000 in
set_option maxHeartbeats 4000000 in
theorem idx75 (s : ByteArray) (w : World) (hs : s.size ≤ 1073741824) : Calls Try.prog 75 #[.string s, .string ⟨#[0]⟩] w fun e w' => IdxSay s e ∧ w = w' := by
  have hsi : (s.size : Int) ≤ 1073741824 := by omega
  have z1 : (⟨#[0]⟩ : ByteArray).size = 1 := rfl
  have step : Hid (∀ k (h : k < s.size), ((s.extract k (k + 1)).toList == [0]) = (s[k] == 0)) := Lib.hid fun k h => by
    rw [ByteArray.toList_eq, ByteArray.data_extract, Array.toList_extract, List.extract_eq_take_drop, show k + 1 - k = 1 by omega]
    have : s.data.toList.drop k = s[k] :: s.data.toList.drop (k + 1) := (List.getElem_cons_drop (by simpa using h)).symm
    rw [this]
    show ([s[k]] == [0]) = _
    simp
  go_enter Try.func75, Try.ntmps75
  go_wp2
  go_loop [5] (fun v3 => ∃ k : Nat, v3 = .int .i64 k ∧ (k : Int) ≤ (s.size : Int) ∧ Hid (∀ j, j < k → s.data.toList[j]? ≠ some 0)) (fun v3 => s.size - (RowKit.intOf v3).toNat)
  case atStart => exact ⟨0, rfl, by omega, Lib.hid fun j hj => by omega⟩
  case round =>
    obtain ⟨k, rfl, hk, HF⟩ := hrel
    by_cases hlt : (k : Int) < (s.size : Int)
    · have hkn : k < s.size := by omega
      have h1 : (k : Int) + 1 ≤ (s.size : Int) := by omega
      have st := step.out k hkn
      by_cases c : s[k] = 0
      · have st2 : ((s.extract k (k + 1)).toList == [0]) = true := by rw [st, c]; rfl
        have H0 := Lib.hid (show s.data.toList[k]? = some 0 by rw [Lib.data_getElem? s k hkn, c])
        clear st c
        go_wp2
        go_ret
        exact ⟨is_yes rfl hkn HF.out H0.out, rfl⟩
      · have st2 : ((s.extract k (k + 1)).toList == [0]) = false := by rw [st]; simpa using c
        have HF2 : Hid (∀ j, j < k + 1 → s.data.toList[j]? ≠ some 0) := Lib.hid fun j hj => by
          by_cases e : j = k
          · subst e; rw [Lib.data_getElem? s j hkn]; simpa using c
          · exact HF.out j (by omega)
        clear st c
        go_wp2
        go_round
        case rel => exact ⟨k + 1, by go_num, by omega, HF2⟩
        case measure => simp [RowKit.intOf]; omega
    · have h1 : ¬ (k : Int) + 1 ≤ (s.size : Int) := by omega
      go_wp2
      go_ret
      exact ⟨is_no rfl (fun j hj => HF.out j (by omega)), rfl⟩

theorem idx_no (s : ByteArray) (w : World) (hs : s.size ≤ 1073741824) (g : ∀ j, j < s.size → s.data.toList[j]? ≠ some 0) : Calls Try.prog 75 #[.string s, .string ⟨#[0]⟩] w fun e w' => e = .returned (.int .i64 (-1)) ∧ w = w' := by
  refine (idx75 s w hs).mono ?_
  rintro e w' ⟨⟨r, rfl, h⟩, hw⟩
  rcases h with ⟨rfl, _⟩ | ⟨i, rfl, hi, _, h0⟩
  · exact ⟨rfl, hw⟩
  · exact absurd h0 (g i hi)
theorem idx_at (s : ByteArray) (k : Nat) (w : World) (hs : s.size ≤ 1073741824) (hk : k < s.size) (g : ∀ j, j < k → s.data.toList[j]? ≠ some 0) (g0 : s.data.toList[k]? = some 0) : Calls Try.prog 75 #[.string s, .string ⟨#[0]⟩] w fun e w' => e = .returned (.int .i64 k) ∧ w = w' := by
  refine (idx75 s w hs).mono ?_
  rintro e w' ⟨⟨r, rfl, h⟩, hw⟩
  rcases h with ⟨rfl, h⟩ | ⟨i, rfl, hi, h, h0⟩
  · exact absurd g0 (h k hk)
  · obtain rfl : i = k := by
      rcases Nat.lt_trichotomy i k with c | c | c
      · exact absurd h0 (g i c)
      · exact c
      · exact absurd g0 (h k c)
    exact ⟨rfl, hw⟩

theorem ext_take (s : ByteArray) (n : Nat) : (⟨(s.data.toList.take n).toArray⟩ : ByteArray) = s.extract 0 n := by
  apply ByteArray.ext
  apply Array.toList_inj.1
  rw [ByteArray.data_extract, Array.toList_extract, List.extract_eq_take_drop]
  simp
theorem inf5 : ∃ i, Try.prog.info? 5 = some i ∧ i.zero = some (.int .u8 0) ∧ i.size = 1 ∧ i.bytes = 1 := by
  have h : (Try.prog.info? 5).map (fun i => (i.zero, i.size, i.bytes)) = some (some (.int .u8 0), 1, 1) := by kernel_rfl
  exact info_parts h
theorem conv54 (B : Nat) (v : Value) (l : List UInt8) (w : World) (h : w.ownsRow B 5 1 v l.length (byteCells l)) : (convert 54 9 v).run Try.prog w = .ok (.string ⟨l.toArray⟩) w := by
  rcases h.2 with ⟨rfl, h0⟩ | ⟨g, cap, cur, rfl, _⟩
  · obtain rfl : l = [] := List.eq_nil_of_length_eq_zero h0
    exact run_convert_bytes_nil (P := Try.prog) (w := w) 54 5 Try.underlying54 Try.underlying5 0 0 9 Try.underlying9
  · refine run_convert_bytes_back (P := Try.prog) w 54 9 5 ⟨g, 0, none⟩ cap l Try.underlying54 Try.underlying5 Try.underlying9 (fun j hj => ?_)
    exact h.cells (g := g) rfl j _ (by simp [byteCells, List.getElem?_eq_getElem hj])

set_option maxRecDepth 20000 in
set_option maxHeartbeats 8000000 in
theorem rep68 (s : ByteArray) (w : World) (hs : s.size ≤ 1073741824) : Calls Try.prog 68 #[.string s, .string ⟨#[0]⟩, .string ⟨#[]⟩] w fun e w' => e = .returned (.string ⟨(noNul s.data.toList).toArray⟩) ∧ Below w.heap.size w w' := by
  obtain ⟨i0, hi, hz0, hz1, hz2⟩ := inf5
  have hsi : (s.size : Int) ≤ 1073741824 := by omega
  have z1 : (⟨#[0]⟩ : ByteArray).size = 1 := rfl
  have HI := Lib.hid (And.intro hi (And.intro hz0 (And.intro hz1 hz2)))
  clear hi hz0 hz1 hz2 hs
  go_enter Try.func68, Try.ntmps68
  go_wp2
  go_loopg [0, 7] (s.size) (fun g v0 v4 wr => ∃ (r : ByteArray) (done : List UInt8), v0 = .string r ∧ r.size ≤ g ∧ (r.size : Int) + (done.length : Int) ≤ (s.size : Int) ∧ Hid (wr.ownsRow w.heap.size 5 1 v4 done.length (byteCells done)) ∧ Hid (done ++ noNul r.data.toList = noNul s.data.toList) ∧ Hid (Below w.heap.size w wr))
  case atStart => exact ⟨s, [], rfl, Nat.le_refl _, by simp, Lib.hid (World.ownsRow_nil w _ _ _), Lib.hid rfl, Lib.hid (Below.refl _ _)⟩
  case round =>
    obtain ⟨r, done, rfl, hg, hb, OW, EQ, BW⟩ := hrel
    obtain ⟨hi, hz0, hz1, hz2⟩ := HI.out
    rcases first_nul r r.size (Nat.le_refl _) with hno | ⟨k, hk, hk1, hk0⟩
    · have IX := Lib.hid (idx_no r wr (by omega) hno)
      have HN := Lib.hid (noNul_all (l := r.data.toList) (fun j hj => hno j (by simpa using hj)))
      clear hno
      go_wp2_with (first | (go_at_call 75; refine IX.out.mono ?_; rintro e w1 ⟨rfl, rfl⟩) | (at_builtin; refine Lib.wpList_append_own_string _ rfl (.tmp 14) (.tmp 15) 54 9 rfl w.heap.size 5 i0 Try.underlying54 Try.underlying9 hi hz0 hz1 hz2 _ _ _ rfl OW.out r rfl (by unfold maxLen; omega) (by omega) BW.out.size ?_))
      intro v' w2 hown' hgrow _
      have hcv := conv54 w.heap.size v' (done ++ r.data.toList) w2 (by rw [byteCells_append, ← strCells_eq]; simpa using hown')
      have HB := Lib.hid (BW.out.grown hgrow BW.out.size (fun k hk => (OW.out.lt k hk).1))
      clear hown' hgrow
      go_wp2
      go_ret
      exact ⟨by rw [← EQ.out, HN.out]; rfl, HB.out⟩
    · have IX := Lib.hid (idx_at r k wr (by omega) hk hk1 hk0)
      have HN := Lib.hid (noNul_at hk hk1 hk0)
      clear hk1 hk0
      have hki : (k : Int) < (r.size : Int) := by omega
      have hk2 : (k : Int) + 1 ≤ (r.size : Int) := by omega
      have hex : (r.extract 0 k).size = k := by simp; omega
      go_wp2_with (first | (go_at_call 75; refine IX.out.mono ?_; rintro e w1 ⟨rfl, rfl⟩) | (at_builtin; refine Lib.wpList_append_own_string _ rfl (.tmp 18) (.tmp 21) 54 9 rfl w.heap.size 5 i0 Try.underlying54 Try.underlying9 hi hz0 hz1 hz2 _ _ _ rfl OW.out (r.extract 0 k) rfl (by rw [hex]; unfold maxLen; omega) (by rw [hex]; omega) BW.out.size ?_))
      intro v1 w2 hown1 hgrow1 _
      generalize hxx : r.extract 0 k = x at hex HN hown1 ⊢
      have hlen0 : (done ++ x.data.toList).length = done.length + k := by simp; omega
      have HL0 := Lib.hid hlen0
      have O1 : Hid (w2.ownsRow w.heap.size 5 1 v1 (done ++ x.data.toList).length (byteCells (done ++ x.data.toList))) := Lib.hid (by rw [hlen0, byteCells_append, ← strCells_eq]; first | exact hown1 | (rw [hex] at hown1; exact hown1))
      have B1 := Lib.hid (BW.out.grown hgrow1 BW.out.size (fun k hk => (OW.out.lt k hk).1))
      have hlen := HL0.out
      clear hlen0
      clear hown1 hgrow1
      go_wp2_with (at_builtin; refine Lib.wpList_append_own_string _ rfl (.tmp 22) (.tmp 23) 54 9 rfl w.heap.size 5 i0 Try.underlying54 Try.underlying9 hi hz0 hz1 hz2 _ _ _ rfl O1.out ⟨#[]⟩ rfl (by rw [hlen]; unfold maxLen; show done.length + k + 0 ≤ _; omega) (by rw [hlen]; show done.length + k + 0 ≤ _; omega) B1.out.size ?_)
      intro v2 w3 hown2 hgrow2 _
      have O2 : Hid (w3.ownsRow w.heap.size 5 1 v2 (done ++ x.data.toList).length (byteCells (done ++ x.data.toList))) := Lib.hid (by
        have e : strCells ⟨#[]⟩ = [] := rfl
        rw [e, List.append_nil] at hown2
        rw [HL0.out]
        first | exact hown2 | (rw [HL0.out] at hown2; exact hown2))
      have B2 := Lib.hid (B1.out.grown hgrow2 B1.out.size (fun k hk => (O1.out.lt k hk).1))
      clear hown2 hgrow2
      have hsz : (r.extract (k + 1) r.size).size = r.size - (k + 1) := by simp
      have E2 : Hid ((done ++ x.data.toList) ++ noNul (r.extract (k + 1) r.size).data.toList = noNul s.data.toList) := Lib.hid (by rw [List.append_assoc, ← HN.out, EQ.out])
      have HSZ := Lib.hid hsz
      have HLEN := Lib.hid hlen
      clear hsz hlen hex hxx
      go_wp2
      go_roundg (r.size - (k + 1))
      case measure => omega
      case rel => exact ⟨_, _, rfl, by rw [HSZ.out]; exact Nat.le_refl _, by rw [HSZ.out, HLEN.out]; omega, O2, E2, B2⟩

set_option maxRecDepth 20000 in
set_option maxHeartbeats 4000000 in
theorem trim69 (s : ByteArray) (w : World) (hs : s.size ≤ 1073741824) : Calls Try.prog 69 #[.string s, .string ⟨#[10]⟩] w fun e w' => e = .returned (.string ⟨(rtrim nl s.data.toList).toArray⟩) ∧ Below w.heap.size w w' := by
  have hsi : (s.size : Int) ≤ 1073741824 := by omega
  have z1 : (⟨#[10]⟩ : ByteArray).size = 1 := rfl
  go_enter Try.func69, Try.ntmps69
  go_wp2
  go_loopg [5] (s.size) (fun g v3 wr => ∃ n : Nat, v3 = .int .i64 n ∧ (n : Int) ≤ (s.size : Int) ∧ n ≤ g ∧ Hid (∀ j, n ≤ j → ∀ c, s.data.toList[j]? = some c → nl c = true) ∧ Hid (Below w.heap.size w wr))
  case atStart => exact ⟨s.size, rfl, by omega, Nat.le_refl _, Lib.hid fun j hj c hc => by have := (List.getElem?_eq_some_iff.1 hc).1; simp at this; omega, Lib.hid (Below.refl _ _)⟩
  case round =>
    obtain ⟨n, rfl, hn, hg, HF, BW⟩ := hrel
    by_cases hz : (0 : Int) < (n : Int)
    · obtain ⟨m, rfl⟩ : ∃ m, n = m + 1 := ⟨n - 1, by omega⟩
      have hm : m < s.size := by omega
      have hmi : (m : Int) < (s.size : Int) := by omega
      have hx : s.data.toList[m]? = some s[m] := Lib.data_getElem? s m hm
      by_cases c : s[m] = 10
      · have c' : ((s[m].toNat : Nat) : Int) = 10 := by rw [c]; rfl
        have HF2 : Hid (∀ j, m ≤ j → ∀ c, s.data.toList[j]? = some c → nl c = true) := Lib.hid fun j hj d hd => by
          by_cases e : j = m
          · subst e; rw [hx] at hd; rw [← Option.some.inj hd, c]; rfl
          · exact HF.out j (by omega) d hd
        clear c hx hz
        go_wp2
        refine wp_loop_rounds 2 ?_
        rw [rounds_succ]
        go_wp2
        go_big_region
        go_wp2
        rw [rounds_succ]
        go_wp2
        go_roundg m
        case measure => omega
        case rel => exact ⟨m, rfl, by omega, Nat.le_refl _, HF2, Lib.hid BW.out.drew⟩
      · have c' : ¬ ((s[m].toNat : Nat) : Int) = 10 := fun h => c (Lib.byte_eq_of_toNat (b := 10) h)
        have R : Hid (rtrim nl s.data.toList = s.data.toList.take (m + 1)) := Lib.hid (rtrim_take nl (s.size - (m + 1)) _ (m + 1) (by simp; omega) HF.out (.inr ⟨s[m], by simpa using hx, by simpa [nl] using c⟩))
        have c2 : (((((⟨#[10]⟩ : ByteArray)[0]'(by decide)).toNat : Nat) : Int) == ((s[m].toNat : Nat) : Int)) = false := by rw [beq_eq_false_iff_ne]; exact fun h => c' h.symm
        clear c hx hz
        have hm1 : (m : Int) + 1 ≤ (s.size : Int) := by omega
        go_wp2
        refine wp_loop_rounds 2 ?_
        rw [rounds_succ]
        go_wp2
        go_big_region
        go_wp2
        rw [rounds_succ]
        go_wp2
        go_ret
        exact ⟨by rw [R.out, ext_take]; rfl, BW.out.drew⟩
    · obtain rfl : n = 0 := by omega
      have R : Hid (rtrim nl s.data.toList = s.data.toList.take 0) := Lib.hid (rtrim_take nl s.size _ 0 (by simp) HF.out (.inl rfl))
      go_wp2
      go_ret
      exact ⟨by rw [R.out]; rfl, BW.out⟩
end Go.Proofs.Ytonhphjejlidiaa
