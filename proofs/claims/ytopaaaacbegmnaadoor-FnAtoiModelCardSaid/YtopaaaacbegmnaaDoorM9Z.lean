/-
  The walk of the law's own zzAtoiModel: whole (printed by genm9.py). Conditions: those in each theorem.
-/
import Derived.Test.YtopaaaacbegmnaaDoorM9P
import Derived.Test.YtopaaaacbegmnaaDoorM9M
namespace Go.Proofs.YtopaaaacbegmnaaDoor
set_option linter.unusedVariables false
open Go.Shelf Go.RowKit Go.Lib


set_option maxHeartbeats 2000000 in
set_option maxRecDepth 20000 in
theorem m9_empty (s : ByteArray) (w : World) (hs : s.size ≤ 1073741824) (F0 : Hid (∀ (j : Nat) (h : j < s.size), isSp s[j] = true)) (t : ByteArray) (ht : t = s.extract s.size s.size) (P16 : Hid (∀ W, Calls Tryd.prog 16 #[.string t, .int .i64 10] W fun e w' => e = .returned (.int .i64 0) ∧ W = w')) :
    Calls Tryd.prog 9 #[.string s] w fun e w' => e = .returned (.int .i64 0) ∧ w = w' := by
  have hslT : ∀ W, (Instr.slice 9 (.string s) (some (.int .i64 s.size)) (some (.int .i64 s.size)) none).run Tryd.prog W = .ok (.string t) W := fun W => by
    rw [ht, run_slice_string_if W 9 s .i64 .i64 _ _ Tryd.underlying9, if_pos ⟨by omega, by omega⟩, if_pos ⟨by omega, by omega⟩]
    rfl
  have ht0 : (t.size : Int) = 0 := by rw [ht, ByteArray.size_extract]; omega
  have S11 := Lib.hid (fun (c : UInt8) W => space11 c W)
  clear ht
  go_enter Tryd.func9, Tryd.ntmps9
  go_wp2
  go_loop [3] (fun v3 => ∃ k : Nat, v3 = .int .i64 k ∧ (k : Int) ≤ (s.size : Int)) (fun v3 => s.size - (Go.RowKit.intOf v3).toNat)
  case atStart => exact ⟨0, rfl, by omega⟩
  case round =>
    obtain ⟨k, rfl, hk⟩ := hrel
    by_cases hkl : (k : Int) < (s.size : Int)
    · have hks : k < s.size := by omega
      obtain ⟨c, hc⟩ : ∃ c, c = s[k] := ⟨_, rfl⟩
      have hcv : ((s[k].toNat : Nat) : Int) = ((c.toNat : Nat) : Int) := by rw [hc]
      have S := Lib.hid (fun W => S11.out c W)
      have hb : isSp c = true := by rw [hc]; exact F0.out k hks
      rw [hb] at S
      clear hc hb
      go_wp2_with (go_at_call 11; refine (S.out _).mono ?_; rintro e w' ⟨rfl, hw'⟩; subst hw')
      go_round
      case rel => exact ⟨k + 1, by go_num, by omega⟩
      case measure => simp [Go.RowKit.intOf]; omega
    · have hks : k = s.size := by omega
      clear hkl hk
      subst hks
      go_wp2
      go_loop [4] (fun v4 => v4 = .int .i64 s.size) (fun v4 => (Go.RowKit.intOf v4).toNat)
      case atStart => rfl
      case round =>
        obtain rfl := hrel
        go_wp2
        go_loop [8, 9] (fun v8 v9 => v8 = .int .i64 (-1) ∧ v9 = .int .i64 0) (fun v8 v9 => 0)
        case atStart => exact ⟨rfl, rfl⟩
        case round =>
          obtain ⟨rfl, rfl⟩ := hrel
          go_wp2_with (go_at_call 16; refine (P16.out _).mono ?_; rintro e w' ⟨rfl, hw'⟩; subst hw')
          all_goals go_ret
          all_goals exact ⟨rfl, rfl⟩

theorem model9 (s : ByteArray) (w : World) (hs : s.size ≤ 1073741824) (ha : ∀ c ∈ s.data.toList, c.toNat < 128) :
    Calls Tryd.prog 9 #[.string s] w fun e w' => e = .returned (.int .i64 (atD (trimSpaceD s.data.toList))) ∧ w = w' := by
  obtain ⟨lo, hi, T⟩ := trim_cut s.data.toList ha
  have sz := Lib.size_eq s
  have hlen := T.len
  rw [← sz] at hlen
  by_cases hlt : lo < hi
  · obtain ⟨t, ht⟩ : ∃ t, t = s.extract lo hi := ⟨_, rfl⟩
    have htl : t.data.toList = trimSpaceD s.data.toList := by rw [ht, Lib.extract_data, T.eq]
    have hts : t.size = hi - lo := by rw [ht, ByteArray.size_extract]; omega
    have HC : Hid (CutS s t lo hi) := Lib.hid ⟨hlt, hlen, fun j h hj => T.front j _ hj (Lib.data_getElem? s j h), fun j h hj => T.first _ hlt (by rw [← hj]; exact Lib.data_getElem? s j h), fun j h hj => T.back j _ hj (Lib.data_getElem? s j h), fun j h hj => T.last j _ hlt hj (Lib.data_getElem? s j h), ht⟩
    rw [← htl]
    obtain ⟨c, r, hL⟩ : ∃ c r, t.data.toList = c :: r := by
      cases h : t.data.toList with
      | nil => have h3 := Lib.size_eq t; rw [h, hts] at h3; simp only [List.length_nil] at h3; omega
      | cons c r => exact ⟨c, r, rfl⟩
    have hpt : 0 < t.size := by omega
    have h0 : t[0] = c := by rw [Lib.getD_at t 0 hpt, hL]; rfl
    have htle : t.size ≤ 1073741824 := by omega
    by_cases h43 : c = 43
    · refine m9_plus s t w hs lo hi HC htle hpt _ (by rw [h0, h43]; rfl) _ rfl ?_
      rw [at_plus (hL.trans (by rw [h43])), ext_list, hL]; rfl
    · by_cases h45 : c = 45
      · refine m9_minus s t w hs lo hi HC htle hpt _ (by rw [h0, h45]; rfl) _ rfl ?_
        rw [at_minus (hL.trans (by rw [h45])), ext_list, hL]; rfl
      · refine m9_none s t w hs lo hi HC htle hpt _ (by rw [h0]; exact fun e => h43 (Lib.byte_eq_of_toNat e)) (by rw [h0]; exact fun e => h45 (Lib.byte_eq_of_toNat e)) ?_
        exact at_none (by rw [hL]; exact fun e => h43 (Option.some.inj e)) (by rw [hL]; exact fun e => h45 (Option.some.inj e))
  · have hl0 : lo = s.data.toList.length := (T.none.resolve_left hlt)
    have hv : atD (trimSpaceD s.data.toList) = 0 := by
      rw [T.eq, show hi - lo = 0 by omega]; rfl
    rw [hv]
    refine m9_empty s w hs (Lib.hid fun j h => T.front j _ (by omega) (Lib.data_getElem? s j h)) _ rfl (Lib.hid fun W => ?_)
    have he : (s.extract s.size s.size).data.toList = [] := by rw [ext_list, sz, List.drop_length]
    have := parse16 10 (by decide) (by decide) (s.extract s.size s.size) (by rw [ByteArray.size_extract]; omega) W
    rw [he] at this
    exact this
end Go.Proofs.YtopaaaacbegmnaaDoor
