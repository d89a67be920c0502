/-
  The walk of the law's own zzAtoiModel: the sign + (printed by genm9.py). Conditions: those in each theorem.
-/
import Derived.Test.YtopaaaacbegmnaaDoorM9
namespace Go.Proofs.YtopaaaacbegmnaaDoor
set_option linter.unusedVariables false
open Go.Shelf Go.RowKit Go.Lib


set_option maxHeartbeats 2000000 in
set_option maxRecDepth 20000 in
theorem m9_plus_hex (s t : ByteArray) (w : World) (hs : s.size ≤ 1073741824) (lo hi : Nat) (HC : Hid (CutS s t lo hi)) (hts : t.size ≤ 1073741824) (hpt : 0 < t.size) (V : Int) (n1 : ((t[0].toNat : Nat) : Int) = 43) (u : ByteArray) (hu : u = t.extract 1 t.size) (h2 : (2 : Int) ≤ (u.size : Int)) (hp0 : 0 < u.size) (hp1 : 1 < u.size) (i0 : ((u[0].toNat : Nat) : Int) = 48) (i1 : ((u[1].toNat : Nat) : Int) = 120) (u2 : ByteArray) (hu2 : u2 = u.extract 2 u.size) (z : Int) (P16 : Hid (∀ W, Calls Tryd.prog 16 #[.string u2, .int .i64 16] W fun e w' => e = .returned (.int .i64 z) ∧ W = w')) (R : Hid (z = V)) :
    Calls Tryd.prog 9 #[.string s] w fun e w' => e = .returned (.int .i64 V) ∧ w = w' := by
  have hpti : (0 : Int) < (t.size : Int) := by omega
  have honeT : (1 : Int) ≤ (t.size : Int) := by omega
  have hslU : ∀ W, (Instr.slice 9 (.string t) (some (.int .i64 1)) none none).run Tryd.prog W = .ok (.string u) W := fun W => by
    rw [hu, run_slice_string_from_if W 9 t .i64 _ Tryd.underlying9, if_pos ⟨by omega, by omega⟩]
    rfl
  have hus : u.size ≤ 1073741824 := by rw [hu, ByteArray.size_extract]; omega
  clear hu
  have hsl2 : ∀ W, (Instr.slice 9 (.string u) (some (.int .i64 2)) none none).run Tryd.prog W = .ok (.string u2) W := fun W => by
    rw [hu2, run_slice_string_from_if W 9 u .i64 _ Tryd.underlying9, if_pos ⟨by omega, by omega⟩]
    rfl
  clear hu2
  obtain ⟨hle, hlen, f1, f2, f3, f4, heq⟩ := HC.out
  have F1 := Lib.hid f1
  have F2 := Lib.hid f2
  have F3 := Lib.hid f3
  have F4 := Lib.hid f4
  clear f1 f2 f3 f4
  have hlei : (lo : Int) < (hi : Int) := by omega
  have hleni : (hi : Int) ≤ (s.size : Int) := by omega
  have hslT : ∀ W, (Instr.slice 9 (.string s) (some (.int .i64 lo)) (some (.int .i64 hi)) none).run Tryd.prog W = .ok (.string t) W := fun W => by
    rw [heq, run_slice_string_if W 9 s .i64 .i64 _ _ Tryd.underlying9, if_pos ⟨by omega, by omega⟩, if_pos ⟨by omega, by omega⟩]
    rfl
  have S11 := Lib.hid (fun (c : UInt8) W => space11 c W)
  clear heq HC
  go_enter Tryd.func9, Tryd.ntmps9
  go_wp2
  go_loop [3] (fun v3 => ∃ k : Nat, v3 = .int .i64 k ∧ (k : Int) ≤ (lo : Int)) (fun v3 => s.size - (Go.RowKit.intOf v3).toNat)
  case atStart => exact ⟨0, rfl, by omega⟩
  case round =>
    obtain ⟨k, rfl, hk⟩ := hrel
    have hks : k < s.size := by omega
    have hki : (k : Int) < (s.size : Int) := by omega
    obtain ⟨c, hc⟩ : ∃ c, c = s[k] := ⟨_, rfl⟩
    have hcv : ((s[k].toNat : Nat) : Int) = ((c.toNat : Nat) : Int) := by rw [hc]
    have S := Lib.hid (fun W => S11.out c W)
    by_cases hkl : (k : Int) < (lo : Int)
    · have hb : isSp c = true := by rw [hc]; exact F1.out k hks (by omega)
      rw [hb] at S
      clear hc hb
      go_wp2_with (go_at_call 11; refine (S.out _).mono ?_; rintro e w' ⟨rfl, hw'⟩; subst hw')
      go_round
      case rel => exact ⟨k + 1, by go_num, by omega⟩
      case measure => simp [Go.RowKit.intOf]; omega
    · obtain rfl : k = lo := by omega
      have hb : isSp c = false := by rw [hc]; exact F2.out k hks rfl
      rw [hb] at S
      clear hc hb hkl hk
      go_wp2_with (go_at_call 11; refine (S.out _).mono ?_; rintro e w' ⟨rfl, hw'⟩; subst hw')
      clear hcv S
      go_loop [4] (fun v4 => ∃ m : Nat, v4 = .int .i64 m ∧ (hi : Int) ≤ (m : Int) ∧ (m : Int) ≤ (s.size : Int)) (fun v4 => (Go.RowKit.intOf v4).toNat)
      case atStart => exact ⟨s.size, rfl, by omega, by omega⟩
      case round =>
        obtain ⟨m, rfl, hm1, hm2⟩ := hrel
        obtain ⟨j, hj⟩ : ∃ j, m = j + 1 := ⟨m - 1, by omega⟩
        have hje : (m : Int) - 1 = (j : Int) := by omega
        have hjs : j < s.size := by omega
        have hji : (j : Int) < (s.size : Int) := by omega
        have hkm : (k : Int) < (m : Int) := by omega
        obtain ⟨c, hc⟩ : ∃ c, c = s[j] := ⟨_, rfl⟩
        have hcv : ((s[j].toNat : Nat) : Int) = ((c.toNat : Nat) : Int) := by rw [hc]
        have S := Lib.hid (fun W => S11.out c W)
        have HJ := Lib.hid hj
        by_cases hmh : (hi : Int) < (m : Int)
        · have hb : isSp c = true := by rw [hc]; exact F3.out j hjs (by omega)
          rw [hb] at S
          clear hc hb hj
          go_wp2_with (go_at_call 11; refine (S.out _).mono ?_; rintro e w' ⟨rfl, hw'⟩; subst hw')
          go_round
          case rel => exact ⟨j, rfl, by have := HJ.out; omega, by omega⟩
          case measure => have := HJ.out; simp [Go.RowKit.intOf]; omega
        · have hb : isSp c = false := by rw [hc]; exact F4.out j hjs (by omega)
          rw [hb] at S
          obtain rfl : m = hi := by omega
          clear hc hb hj HJ hm1 hmh
          go_wp2_with (first | (go_at_call 11; refine (S.out _).mono ?_; rintro e w' ⟨rfl, hw'⟩; subst hw') | (go_at_call 16; refine (P16.out _).mono ?_; rintro e w' ⟨rfl, hw'⟩; subst hw'))
          all_goals go_ret
          all_goals first | exact ⟨ret_i64 R.out, rfl⟩ | (refine ⟨ret_i64 ?_, rfl⟩; rw [← R.out]; unfold wrap64; rfl)

set_option maxHeartbeats 2000000 in
set_option maxRecDepth 20000 in
theorem m9_plus_heX (s t : ByteArray) (w : World) (hs : s.size ≤ 1073741824) (lo hi : Nat) (HC : Hid (CutS s t lo hi)) (hts : t.size ≤ 1073741824) (hpt : 0 < t.size) (V : Int) (n1 : ((t[0].toNat : Nat) : Int) = 43) (u : ByteArray) (hu : u = t.extract 1 t.size) (h2 : (2 : Int) ≤ (u.size : Int)) (hp0 : 0 < u.size) (hp1 : 1 < u.size) (i0 : ((u[0].toNat : Nat) : Int) = 48) (i1 : ((u[1].toNat : Nat) : Int) = 88) (u2 : ByteArray) (hu2 : u2 = u.extract 2 u.size) (z : Int) (P16 : Hid (∀ W, Calls Tryd.prog 16 #[.string u2, .int .i64 16] W fun e w' => e = .returned (.int .i64 z) ∧ W = w')) (R : Hid (z = V)) :
    Calls Tryd.prog 9 #[.string s] w fun e w' => e = .returned (.int .i64 V) ∧ w = w' := by
  have hpti : (0 : Int) < (t.size : Int) := by omega
  have honeT : (1 : Int) ≤ (t.size : Int) := by omega
  have hslU : ∀ W, (Instr.slice 9 (.string t) (some (.int .i64 1)) none none).run Tryd.prog W = .ok (.string u) W := fun W => by
    rw [hu, run_slice_string_from_if W 9 t .i64 _ Tryd.underlying9, if_pos ⟨by omega, by omega⟩]
    rfl
  have hus : u.size ≤ 1073741824 := by rw [hu, ByteArray.size_extract]; omega
  clear hu
  have hsl2 : ∀ W, (Instr.slice 9 (.string u) (some (.int .i64 2)) none none).run Tryd.prog W = .ok (.string u2) W := fun W => by
    rw [hu2, run_slice_string_from_if W 9 u .i64 _ Tryd.underlying9, if_pos ⟨by omega, by omega⟩]
    rfl
  clear hu2
  obtain ⟨hle, hlen, f1, f2, f3, f4, heq⟩ := HC.out
  have F1 := Lib.hid f1
  have F2 := Lib.hid f2
  have F3 := Lib.hid f3
  have F4 := Lib.hid f4
  clear f1 f2 f3 f4
  have hlei : (lo : Int) < (hi : Int) := by omega
  have hleni : (hi : Int) ≤ (s.size : Int) := by omega
  have hslT : ∀ W, (Instr.slice 9 (.string s) (some (.int .i64 lo)) (some (.int .i64 hi)) none).run Tryd.prog W = .ok (.string t) W := fun W => by
    rw [heq, run_slice_string_if W 9 s .i64 .i64 _ _ Tryd.underlying9, if_pos ⟨by omega, by omega⟩, if_pos ⟨by omega, by omega⟩]
    rfl
  have S11 := Lib.hid (fun (c : UInt8) W => space11 c W)
  clear heq HC
  go_enter Tryd.func9, Tryd.ntmps9
  go_wp2
  go_loop [3] (fun v3 => ∃ k : Nat, v3 = .int .i64 k ∧ (k : Int) ≤ (lo : Int)) (fun v3 => s.size - (Go.RowKit.intOf v3).toNat)
  case atStart => exact ⟨0, rfl, by omega⟩
  case round =>
    obtain ⟨k, rfl, hk⟩ := hrel
    have hks : k < s.size := by omega
    have hki : (k : Int) < (s.size : Int) := by omega
    obtain ⟨c, hc⟩ : ∃ c, c = s[k] := ⟨_, rfl⟩
    have hcv : ((s[k].toNat : Nat) : Int) = ((c.toNat : Nat) : Int) := by rw [hc]
    have S := Lib.hid (fun W => S11.out c W)
    by_cases hkl : (k : Int) < (lo : Int)
    · have hb : isSp c = true := by rw [hc]; exact F1.out k hks (by omega)
      rw [hb] at S
      clear hc hb
      go_wp2_with (go_at_call 11; refine (S.out _).mono ?_; rintro e w' ⟨rfl, hw'⟩; subst hw')
      go_round
      case rel => exact ⟨k + 1, by go_num, by omega⟩
      case measure => simp [Go.RowKit.intOf]; omega
    · obtain rfl : k = lo := by omega
      have hb : isSp c = false := by rw [hc]; exact F2.out k hks rfl
      rw [hb] at S
      clear hc hb hkl hk
      go_wp2_with (go_at_call 11; refine (S.out _).mono ?_; rintro e w' ⟨rfl, hw'⟩; subst hw')
      clear hcv S
      go_loop [4] (fun v4 => ∃ m : Nat, v4 = .int .i64 m ∧ (hi : Int) ≤ (m : Int) ∧ (m : Int) ≤ (s.size : Int)) (fun v4 => (Go.RowKit.intOf v4).toNat)
      case atStart => exact ⟨s.size, rfl, by omega, by omega⟩
      case round =>
        obtain ⟨m, rfl, hm1, hm2⟩ := hrel
        obtain ⟨j, hj⟩ : ∃ j, m = j + 1 := ⟨m - 1, by omega⟩
        have hje : (m : Int) - 1 = (j : Int) := by omega
        have hjs : j < s.size := by omega
        have hji : (j : Int) < (s.size : Int) := by omega
        have hkm : (k : Int) < (m : Int) := by omega
        obtain ⟨c, hc⟩ : ∃ c, c = s[j] := ⟨_, rfl⟩
        have hcv : ((s[j].toNat : Nat) : Int) = ((c.toNat : Nat) : Int) := by rw [hc]
        have S := Lib.hid (fun W => S11.out c W)
        have HJ := Lib.hid hj
        by_cases hmh : (hi : Int) < (m : Int)
        · have hb : isSp c = true := by rw [hc]; exact F3.out j hjs (by omega)
          rw [hb] at S
          clear hc hb hj
          go_wp2_with (go_at_call 11; refine (S.out _).mono ?_; rintro e w' ⟨rfl, hw'⟩; subst hw')
          go_round
          case rel => exact ⟨j, rfl, by have := HJ.out; omega, by omega⟩
          case measure => have := HJ.out; simp [Go.RowKit.intOf]; omega
        · have hb : isSp c = false := by rw [hc]; exact F4.out j hjs (by omega)
          rw [hb] at S
          obtain rfl : m = hi := by omega
          clear hc hb hj HJ hm1 hmh
          go_wp2_with (first | (go_at_call 11; refine (S.out _).mono ?_; rintro e w' ⟨rfl, hw'⟩; subst hw') | (go_at_call 16; refine (P16.out _).mono ?_; rintro e w' ⟨rfl, hw'⟩; subst hw'))
          all_goals go_ret
          all_goals first | exact ⟨ret_i64 R.out, rfl⟩ | (refine ⟨ret_i64 ?_, rfl⟩; rw [← R.out]; unfold wrap64; rfl)

set_option maxHeartbeats 2000000 in
set_option maxRecDepth 20000 in
theorem m9_plus_oct1 (s t : ByteArray) (w : World) (hs : s.size ≤ 1073741824) (lo hi : Nat) (HC : Hid (CutS s t lo hi)) (hts : t.size ≤ 1073741824) (hpt : 0 < t.size) (V : Int) (n1 : ((t[0].toNat : Nat) : Int) = 43) (u : ByteArray) (hu : u = t.extract 1 t.size) (h1 : (u.size : Int) = 1) (hp0 : 0 < u.size) (i0 : ((u[0].toNat : Nat) : Int) = 48) (u2 : ByteArray) (hu2 : u2 = u.extract 1 u.size) (z : Int) (P16 : Hid (∀ W, Calls Tryd.prog 16 #[.string u2, .int .i64 8] W fun e w' => e = .returned (.int .i64 z) ∧ W = w')) (R : Hid (z = V)) :
    Calls Tryd.prog 9 #[.string s] w fun e w' => e = .returned (.int .i64 V) ∧ w = w' := by
  have hpti : (0 : Int) < (t.size : Int) := by omega
  have honeT : (1 : Int) ≤ (t.size : Int) := by omega
  have hslU : ∀ W, (Instr.slice 9 (.string t) (some (.int .i64 1)) none none).run Tryd.prog W = .ok (.string u) W := fun W => by
    rw [hu, run_slice_string_from_if W 9 t .i64 _ Tryd.underlying9, if_pos ⟨by omega, by omega⟩]
    rfl
  have hus : u.size ≤ 1073741824 := by rw [hu, ByteArray.size_extract]; omega
  clear hu
  have hsl2 : ∀ W, (Instr.slice 9 (.string u) (some (.int .i64 1)) none none).run Tryd.prog W = .ok (.string u2) W := fun W => by
    rw [hu2, run_slice_string_from_if W 9 u .i64 _ Tryd.underlying9, if_pos ⟨by omega, by omega⟩]
    rfl
  clear hu2
  obtain ⟨hle, hlen, f1, f2, f3, f4, heq⟩ := HC.out
  have F1 := Lib.hid f1
  have F2 := Lib.hid f2
  have F3 := Lib.hid f3
  have F4 := Lib.hid f4
  clear f1 f2 f3 f4
  have hlei : (lo : Int) < (hi : Int) := by omega
  have hleni : (hi : Int) ≤ (s.size : Int) := by omega
  have hslT : ∀ W, (Instr.slice 9 (.string s) (some (.int .i64 lo)) (some (.int .i64 hi)) none).run Tryd.prog W = .ok (.string t) W := fun W => by
    rw [heq, run_slice_string_if W 9 s .i64 .i64 _ _ Tryd.underlying9, if_pos ⟨by omega, by omega⟩, if_pos ⟨by omega, by omega⟩]
    rfl
  have S11 := Lib.hid (fun (c : UInt8) W => space11 c W)
  clear heq HC
  go_enter Tryd.func9, Tryd.ntmps9
  go_wp2
  go_loop [3] (fun v3 => ∃ k : Nat, v3 = .int .i64 k ∧ (k : Int) ≤ (lo : Int)) (fun v3 => s.size - (Go.RowKit.intOf v3).toNat)
  case atStart => exact ⟨0, rfl, by omega⟩
  case round =>
    obtain ⟨k, rfl, hk⟩ := hrel
    have hks : k < s.size := by omega
    have hki : (k : Int) < (s.size : Int) := by omega
    obtain ⟨c, hc⟩ : ∃ c, c = s[k] := ⟨_, rfl⟩
    have hcv : ((s[k].toNat : Nat) : Int) = ((c.toNat : Nat) : Int) := by rw [hc]
    have S := Lib.hid (fun W => S11.out c W)
    by_cases hkl : (k : Int) < (lo : Int)
    · have hb : isSp c = true := by rw [hc]; exact F1.out k hks (by omega)
      rw [hb] at S
      clear hc hb
      go_wp2_with (go_at_call 11; refine (S.out _).mono ?_; rintro e w' ⟨rfl, hw'⟩; subst hw')
      go_round
      case rel => exact ⟨k + 1, by go_num, by omega⟩
      case measure => simp [Go.RowKit.intOf]; omega
    · obtain rfl : k = lo := by omega
      have hb : isSp c = false := by rw [hc]; exact F2.out k hks rfl
      rw [hb] at S
      clear hc hb hkl hk
      go_wp2_with (go_at_call 11; refine (S.out _).mono ?_; rintro e w' ⟨rfl, hw'⟩; subst hw')
      clear hcv S
      go_loop [4] (fun v4 => ∃ m : Nat, v4 = .int .i64 m ∧ (hi : Int) ≤ (m : Int) ∧ (m : Int) ≤ (s.size : Int)) (fun v4 => (Go.RowKit.intOf v4).toNat)
      case atStart => exact ⟨s.size, rfl, by omega, by omega⟩
      case round =>
        obtain ⟨m, rfl, hm1, hm2⟩ := hrel
        obtain ⟨j, hj⟩ : ∃ j, m = j + 1 := ⟨m - 1, by omega⟩
        have hje : (m : Int) - 1 = (j : Int) := by omega
        have hjs : j < s.size := by omega
        have hji : (j : Int) < (s.size : Int) := by omega
        have hkm : (k : Int) < (m : Int) := by omega
        obtain ⟨c, hc⟩ : ∃ c, c = s[j] := ⟨_, rfl⟩
        have hcv : ((s[j].toNat : Nat) : Int) = ((c.toNat : Nat) : Int) := by rw [hc]
        have S := Lib.hid (fun W => S11.out c W)
        have HJ := Lib.hid hj
        by_cases hmh : (hi : Int) < (m : Int)
        · have hb : isSp c = true := by rw [hc]; exact F3.out j hjs (by omega)
          rw [hb] at S
          clear hc hb hj
          go_wp2_with (go_at_call 11; refine (S.out _).mono ?_; rintro e w' ⟨rfl, hw'⟩; subst hw')
          go_round
          case rel => exact ⟨j, rfl, by have := HJ.out; omega, by omega⟩
          case measure => have := HJ.out; simp [Go.RowKit.intOf]; omega
        · have hb : isSp c = false := by rw [hc]; exact F4.out j hjs (by omega)
          rw [hb] at S
          obtain rfl : m = hi := by omega
          clear hc hb hj HJ hm1 hmh
          go_wp2_with (first | (go_at_call 11; refine (S.out _).mono ?_; rintro e w' ⟨rfl, hw'⟩; subst hw') | (go_at_call 16; refine (P16.out _).mono ?_; rintro e w' ⟨rfl, hw'⟩; subst hw'))
          all_goals go_ret
          all_goals first | exact ⟨ret_i64 R.out, rfl⟩ | (refine ⟨ret_i64 ?_, rfl⟩; rw [← R.out]; unfold wrap64; rfl)

set_option maxHeartbeats 2000000 in
set_option maxRecDepth 20000 in
theorem m9_plus_oct2 (s t : ByteArray) (w : World) (hs : s.size ≤ 1073741824) (lo hi : Nat) (HC : Hid (CutS s t lo hi)) (hts : t.size ≤ 1073741824) (hpt : 0 < t.size) (V : Int) (n1 : ((t[0].toNat : Nat) : Int) = 43) (u : ByteArray) (hu : u = t.extract 1 t.size) (h1 : (2 : Int) ≤ (u.size : Int)) (hp1 : 1 < u.size) (m1 : ¬ ((u[1].toNat : Nat) : Int) = 120) (m2 : ¬ ((u[1].toNat : Nat) : Int) = 88) (hp0 : 0 < u.size) (i0 : ((u[0].toNat : Nat) : Int) = 48) (u2 : ByteArray) (hu2 : u2 = u.extract 1 u.size) (z : Int) (P16 : Hid (∀ W, Calls Tryd.prog 16 #[.string u2, .int .i64 8] W fun e w' => e = .returned (.int .i64 z) ∧ W = w')) (R : Hid (z = V)) :
    Calls Tryd.prog 9 #[.string s] w fun e w' => e = .returned (.int .i64 V) ∧ w = w' := by
  have hpti : (0 : Int) < (t.size : Int) := by omega
  have honeT : (1 : Int) ≤ (t.size : Int) := by omega
  have hslU : ∀ W, (Instr.slice 9 (.string t) (some (.int .i64 1)) none none).run Tryd.prog W = .ok (.string u) W := fun W => by
    rw [hu, run_slice_string_from_if W 9 t .i64 _ Tryd.underlying9, if_pos ⟨by omega, by omega⟩]
    rfl
  have hus : u.size ≤ 1073741824 := by rw [hu, ByteArray.size_extract]; omega
  clear hu
  have hsl2 : ∀ W, (Instr.slice 9 (.string u) (some (.int .i64 1)) none none).run Tryd.prog W = .ok (.string u2) W := fun W => by
    rw [hu2, run_slice_string_from_if W 9 u .i64 _ Tryd.underlying9, if_pos ⟨by omega, by omega⟩]
    rfl
  clear hu2
  have z120 : (((u[1].toNat : Nat) : Int) == 120) = false := by rw [beq_eq_false_iff_ne]; exact m1
  have z88 : (((u[1].toNat : Nat) : Int) == 88) = false := by rw [beq_eq_false_iff_ne]; exact m2
  clear m1 m2
  obtain ⟨hle, hlen, f1, f2, f3, f4, heq⟩ := HC.out
  have F1 := Lib.hid f1
  have F2 := Lib.hid f2
  have F3 := Lib.hid f3
  have F4 := Lib.hid f4
  clear f1 f2 f3 f4
  have hlei : (lo : Int) < (hi : Int) := by omega
  have hleni : (hi : Int) ≤ (s.size : Int) := by omega
  have hslT : ∀ W, (Instr.slice 9 (.string s) (some (.int .i64 lo)) (some (.int .i64 hi)) none).run Tryd.prog W = .ok (.string t) W := fun W => by
    rw [heq, run_slice_string_if W 9 s .i64 .i64 _ _ Tryd.underlying9, if_pos ⟨by omega, by omega⟩, if_pos ⟨by omega, by omega⟩]
    rfl
  have S11 := Lib.hid (fun (c : UInt8) W => space11 c W)
  clear heq HC
  go_enter Tryd.func9, Tryd.ntmps9
  go_wp2
  go_loop [3] (fun v3 => ∃ k : Nat, v3 = .int .i64 k ∧ (k : Int) ≤ (lo : Int)) (fun v3 => s.size - (Go.RowKit.intOf v3).toNat)
  case atStart => exact ⟨0, rfl, by omega⟩
  case round =>
    obtain ⟨k, rfl, hk⟩ := hrel
    have hks : k < s.size := by omega
    have hki : (k : Int) < (s.size : Int) := by omega
    obtain ⟨c, hc⟩ : ∃ c, c = s[k] := ⟨_, rfl⟩
    have hcv : ((s[k].toNat : Nat) : Int) = ((c.toNat : Nat) : Int) := by rw [hc]
    have S := Lib.hid (fun W => S11.out c W)
    by_cases hkl : (k : Int) < (lo : Int)
    · have hb : isSp c = true := by rw [hc]; exact F1.out k hks (by omega)
      rw [hb] at S
      clear hc hb
      go_wp2_with (go_at_call 11; refine (S.out _).mono ?_; rintro e w' ⟨rfl, hw'⟩; subst hw')
      go_round
      case rel => exact ⟨k + 1, by go_num, by omega⟩
      case measure => simp [Go.RowKit.intOf]; omega
    · obtain rfl : k = lo := by omega
      have hb : isSp c = false := by rw [hc]; exact F2.out k hks rfl
      rw [hb] at S
      clear hc hb hkl hk
      go_wp2_with (go_at_call 11; refine (S.out _).mono ?_; rintro e w' ⟨rfl, hw'⟩; subst hw')
      clear hcv S
      go_loop [4] (fun v4 => ∃ m : Nat, v4 = .int .i64 m ∧ (hi : Int) ≤ (m : Int) ∧ (m : Int) ≤ (s.size : Int)) (fun v4 => (Go.RowKit.intOf v4).toNat)
      case atStart => exact ⟨s.size, rfl, by omega, by omega⟩
      case round =>
        obtain ⟨m, rfl, hm1, hm2⟩ := hrel
        obtain ⟨j, hj⟩ : ∃ j, m = j + 1 := ⟨m - 1, by omega⟩
        have hje : (m : Int) - 1 = (j : Int) := by omega
        have hjs : j < s.size := by omega
        have hji : (j : Int) < (s.size : Int) := by omega
        have hkm : (k : Int) < (m : Int) := by omega
        obtain ⟨c, hc⟩ : ∃ c, c = s[j] := ⟨_, rfl⟩
        have hcv : ((s[j].toNat : Nat) : Int) = ((c.toNat : Nat) : Int) := by rw [hc]
        have S := Lib.hid (fun W => S11.out c W)
        have HJ := Lib.hid hj
        by_cases hmh : (hi : Int) < (m : Int)
        · have hb : isSp c = true := by rw [hc]; exact F3.out j hjs (by omega)
          rw [hb] at S
          clear hc hb hj
          go_wp2_with (go_at_call 11; refine (S.out _).mono ?_; rintro e w' ⟨rfl, hw'⟩; subst hw')
          go_round
          case rel => exact ⟨j, rfl, by have := HJ.out; omega, by omega⟩
          case measure => have := HJ.out; simp [Go.RowKit.intOf]; omega
        · have hb : isSp c = false := by rw [hc]; exact F4.out j hjs (by omega)
          rw [hb] at S
          obtain rfl : m = hi := by omega
          clear hc hb hj HJ hm1 hmh
          go_wp2_with (first | (go_at_call 11; refine (S.out _).mono ?_; rintro e w' ⟨rfl, hw'⟩; subst hw') | (go_at_call 16; refine (P16.out _).mono ?_; rintro e w' ⟨rfl, hw'⟩; subst hw'))
          all_goals go_ret
          all_goals first | exact ⟨ret_i64 R.out, rfl⟩ | (refine ⟨ret_i64 ?_, rfl⟩; rw [← R.out]; unfold wrap64; rfl)

set_option maxHeartbeats 2000000 in
set_option maxRecDepth 20000 in
theorem m9_plus_dec0 (s t : ByteArray) (w : World) (hs : s.size ≤ 1073741824) (lo hi : Nat) (HC : Hid (CutS s t lo hi)) (hts : t.size ≤ 1073741824) (hpt : 0 < t.size) (V : Int) (n1 : ((t[0].toNat : Nat) : Int) = 43) (u : ByteArray) (hu : u = t.extract 1 t.size) (h0 : (u.size : Int) = 0) (HI : Hid (∀ (j : Nat) (h : j < u.size), ¬ ((u[j].toNat : Nat) : Int) = 35)) (z : Int) (P16 : Hid (∀ W, Calls Tryd.prog 16 #[.string u, .int .i64 10] W fun e w' => e = .returned (.int .i64 z) ∧ W = w')) (R : Hid (z = V)) :
    Calls Tryd.prog 9 #[.string s] w fun e w' => e = .returned (.int .i64 V) ∧ w = w' := by
  have hpti : (0 : Int) < (t.size : Int) := by omega
  have honeT : (1 : Int) ≤ (t.size : Int) := by omega
  have hslU : ∀ W, (Instr.slice 9 (.string t) (some (.int .i64 1)) none none).run Tryd.prog W = .ok (.string u) W := fun W => by
    rw [hu, run_slice_string_from_if W 9 t .i64 _ Tryd.underlying9, if_pos ⟨by omega, by omega⟩]
    rfl
  have hus : u.size ≤ 1073741824 := by rw [hu, ByteArray.size_extract]; omega
  clear hu
  obtain ⟨hle, hlen, f1, f2, f3, f4, heq⟩ := HC.out
  have F1 := Lib.hid f1
  have F2 := Lib.hid f2
  have F3 := Lib.hid f3
  have F4 := Lib.hid f4
  clear f1 f2 f3 f4
  have hlei : (lo : Int) < (hi : Int) := by omega
  have hleni : (hi : Int) ≤ (s.size : Int) := by omega
  have hslT : ∀ W, (Instr.slice 9 (.string s) (some (.int .i64 lo)) (some (.int .i64 hi)) none).run Tryd.prog W = .ok (.string t) W := fun W => by
    rw [heq, run_slice_string_if W 9 s .i64 .i64 _ _ Tryd.underlying9, if_pos ⟨by omega, by omega⟩, if_pos ⟨by omega, by omega⟩]
    rfl
  have S11 := Lib.hid (fun (c : UInt8) W => space11 c W)
  clear heq HC
  go_enter Tryd.func9, Tryd.ntmps9
  go_wp2
  go_loop [3] (fun v3 => ∃ k : Nat, v3 = .int .i64 k ∧ (k : Int) ≤ (lo : Int)) (fun v3 => s.size - (Go.RowKit.intOf v3).toNat)
  case atStart => exact ⟨0, rfl, by omega⟩
  case round =>
    obtain ⟨k, rfl, hk⟩ := hrel
    have hks : k < s.size := by omega
    have hki : (k : Int) < (s.size : Int) := by omega
    obtain ⟨c, hc⟩ : ∃ c, c = s[k] := ⟨_, rfl⟩
    have hcv : ((s[k].toNat : Nat) : Int) = ((c.toNat : Nat) : Int) := by rw [hc]
    have S := Lib.hid (fun W => S11.out c W)
    by_cases hkl : (k : Int) < (lo : Int)
    · have hb : isSp c = true := by rw [hc]; exact F1.out k hks (by omega)
      rw [hb] at S
      clear hc hb
      go_wp2_with (go_at_call 11; refine (S.out _).mono ?_; rintro e w' ⟨rfl, hw'⟩; subst hw')
      go_round
      case rel => exact ⟨k + 1, by go_num, by omega⟩
      case measure => simp [Go.RowKit.intOf]; omega
    · obtain rfl : k = lo := by omega
      have hb : isSp c = false := by rw [hc]; exact F2.out k hks rfl
      rw [hb] at S
      clear hc hb hkl hk
      go_wp2_with (go_at_call 11; refine (S.out _).mono ?_; rintro e w' ⟨rfl, hw'⟩; subst hw')
      clear hcv S
      go_loop [4] (fun v4 => ∃ m : Nat, v4 = .int .i64 m ∧ (hi : Int) ≤ (m : Int) ∧ (m : Int) ≤ (s.size : Int)) (fun v4 => (Go.RowKit.intOf v4).toNat)
      case atStart => exact ⟨s.size, rfl, by omega, by omega⟩
      case round =>
        obtain ⟨m, rfl, hm1, hm2⟩ := hrel
        obtain ⟨j, hj⟩ : ∃ j, m = j + 1 := ⟨m - 1, by omega⟩
        have hje : (m : Int) - 1 = (j : Int) := by omega
        have hjs : j < s.size := by omega
        have hji : (j : Int) < (s.size : Int) := by omega
        have hkm : (k : Int) < (m : Int) := by omega
        obtain ⟨c, hc⟩ : ∃ c, c = s[j] := ⟨_, rfl⟩
        have hcv : ((s[j].toNat : Nat) : Int) = ((c.toNat : Nat) : Int) := by rw [hc]
        have S := Lib.hid (fun W => S11.out c W)
        have HJ := Lib.hid hj
        by_cases hmh : (hi : Int) < (m : Int)
        · have hb : isSp c = true := by rw [hc]; exact F3.out j hjs (by omega)
          rw [hb] at S
          clear hc hb hj
          go_wp2_with (go_at_call 11; refine (S.out _).mono ?_; rintro e w' ⟨rfl, hw'⟩; subst hw')
          go_round
          case rel => exact ⟨j, rfl, by have := HJ.out; omega, by omega⟩
          case measure => have := HJ.out; simp [Go.RowKit.intOf]; omega
        · have hb : isSp c = false := by rw [hc]; exact F4.out j hjs (by omega)
          rw [hb] at S
          obtain rfl : m = hi := by omega
          clear hc hb hj HJ hm1 hmh
          go_wp2_with (go_at_call 11; refine (S.out _).mono ?_; rintro e w' ⟨rfl, hw'⟩; subst hw')
          clear hcv S
          go_loop [8, 9] (fun v8 v9 => ∃ k : Nat, v8 = .int .i64 (-1) ∧ v9 = .int .i64 k ∧ (k : Int) ≤ (u.size : Int)) (fun v8 v9 => u.size - (Go.RowKit.intOf v9).toNat)
          case atStart => exact ⟨0, rfl, rfl, by omega⟩
          case round =>
            obtain ⟨i, rfl, rfl, hi1⟩ := hrel
            by_cases hlt : (i : Int) < (u.size : Int)
            · exfalso; omega
            · go_wp2_with (go_at_call 16; refine (P16.out _).mono ?_; rintro e w' ⟨rfl, hw'⟩; subst hw')
              all_goals go_ret
              all_goals first | exact ⟨ret_i64 R.out, rfl⟩ | (refine ⟨ret_i64 ?_, rfl⟩; rw [← R.out]; unfold wrap64; rfl)

set_option maxHeartbeats 2000000 in
set_option maxRecDepth 20000 in
theorem m9_plus_dec1 (s t : ByteArray) (w : World) (hs : s.size ≤ 1073741824) (lo hi : Nat) (HC : Hid (CutS s t lo hi)) (hts : t.size ≤ 1073741824) (hpt : 0 < t.size) (V : Int) (n1 : ((t[0].toNat : Nat) : Int) = 43) (u : ByteArray) (hu : u = t.extract 1 t.size) (h1 : (u.size : Int) = 1) (hp0 : 0 < u.size) (m0 : ¬ ((u[0].toNat : Nat) : Int) = 48) (HI : Hid (∀ (j : Nat) (h : j < u.size), ¬ ((u[j].toNat : Nat) : Int) = 35)) (z : Int) (P16 : Hid (∀ W, Calls Tryd.prog 16 #[.string u, .int .i64 10] W fun e w' => e = .returned (.int .i64 z) ∧ W = w')) (R : Hid (z = V)) :
    Calls Tryd.prog 9 #[.string s] w fun e w' => e = .returned (.int .i64 V) ∧ w = w' := by
  have hpti : (0 : Int) < (t.size : Int) := by omega
  have honeT : (1 : Int) ≤ (t.size : Int) := by omega
  have hslU : ∀ W, (Instr.slice 9 (.string t) (some (.int .i64 1)) none none).run Tryd.prog W = .ok (.string u) W := fun W => by
    rw [hu, run_slice_string_from_if W 9 t .i64 _ Tryd.underlying9, if_pos ⟨by omega, by omega⟩]
    rfl
  have hus : u.size ≤ 1073741824 := by rw [hu, ByteArray.size_extract]; omega
  clear hu
  have z48 : (((u[0].toNat : Nat) : Int) == 48) = false := by rw [beq_eq_false_iff_ne]; exact m0
  clear m0
  obtain ⟨hle, hlen, f1, f2, f3, f4, heq⟩ := HC.out
  have F1 := Lib.hid f1
  have F2 := Lib.hid f2
  have F3 := Lib.hid f3
  have F4 := Lib.hid f4
  clear f1 f2 f3 f4
  have hlei : (lo : Int) < (hi : Int) := by omega
  have hleni : (hi : Int) ≤ (s.size : Int) := by omega
  have hslT : ∀ W, (Instr.slice 9 (.string s) (some (.int .i64 lo)) (some (.int .i64 hi)) none).run Tryd.prog W = .ok (.string t) W := fun W => by
    rw [heq, run_slice_string_if W 9 s .i64 .i64 _ _ Tryd.underlying9, if_pos ⟨by omega, by omega⟩, if_pos ⟨by omega, by omega⟩]
    rfl
  have S11 := Lib.hid (fun (c : UInt8) W => space11 c W)
  clear heq HC
  go_enter Tryd.func9, Tryd.ntmps9
  go_wp2
  go_loop [3] (fun v3 => ∃ k : Nat, v3 = .int .i64 k ∧ (k : Int) ≤ (lo : Int)) (fun v3 => s.size - (Go.RowKit.intOf v3).toNat)
  case atStart => exact ⟨0, rfl, by omega⟩
  case round =>
    obtain ⟨k, rfl, hk⟩ := hrel
    have hks : k < s.size := by omega
    have hki : (k : Int) < (s.size : Int) := by omega
    obtain ⟨c, hc⟩ : ∃ c, c = s[k] := ⟨_, rfl⟩
    have hcv : ((s[k].toNat : Nat) : Int) = ((c.toNat : Nat) : Int) := by rw [hc]
    have S := Lib.hid (fun W => S11.out c W)
    by_cases hkl : (k : Int) < (lo : Int)
    · have hb : isSp c = true := by rw [hc]; exact F1.out k hks (by omega)
      rw [hb] at S
      clear hc hb
      go_wp2_with (go_at_call 11; refine (S.out _).mono ?_; rintro e w' ⟨rfl, hw'⟩; subst hw')
      go_round
      case rel => exact ⟨k + 1, by go_num, by omega⟩
      case measure => simp [Go.RowKit.intOf]; omega
    · obtain rfl : k = lo := by omega
      have hb : isSp c = false := by rw [hc]; exact F2.out k hks rfl
      rw [hb] at S
      clear hc hb hkl hk
      go_wp2_with (go_at_call 11; refine (S.out _).mono ?_; rintro e w' ⟨rfl, hw'⟩; subst hw')
      clear hcv S
      go_loop [4] (fun v4 => ∃ m : Nat, v4 = .int .i64 m ∧ (hi : Int) ≤ (m : Int) ∧ (m : Int) ≤ (s.size : Int)) (fun v4 => (Go.RowKit.intOf v4).toNat)
      case atStart => exact ⟨s.size, rfl, by omega, by omega⟩
      case round =>
        obtain ⟨m, rfl, hm1, hm2⟩ := hrel
        obtain ⟨j, hj⟩ : ∃ j, m = j + 1 := ⟨m - 1, by omega⟩
        have hje : (m : Int) - 1 = (j : Int) := by omega
        have hjs : j < s.size := by omega
        have hji : (j : Int) < (s.size : Int) := by omega
        have hkm : (k : Int) < (m : Int) := by omega
        obtain ⟨c, hc⟩ : ∃ c, c = s[j] := ⟨_, rfl⟩
        have hcv : ((s[j].toNat : Nat) : Int) = ((c.toNat : Nat) : Int) := by rw [hc]
        have S := Lib.hid (fun W => S11.out c W)
        have HJ := Lib.hid hj
        by_cases hmh : (hi : Int) < (m : Int)
        · have hb : isSp c = true := by rw [hc]; exact F3.out j hjs (by omega)
          rw [hb] at S
          clear hc hb hj
          go_wp2_with (go_at_call 11; refine (S.out _).mono ?_; rintro e w' ⟨rfl, hw'⟩; subst hw')
          go_round
          case rel => exact ⟨j, rfl, by have := HJ.out; omega, by omega⟩
          case measure => have := HJ.out; simp [Go.RowKit.intOf]; omega
        · have hb : isSp c = false := by rw [hc]; exact F4.out j hjs (by omega)
          rw [hb] at S
          obtain rfl : m = hi := by omega
          clear hc hb hj HJ hm1 hmh
          go_wp2_with (go_at_call 11; refine (S.out _).mono ?_; rintro e w' ⟨rfl, hw'⟩; subst hw')
          clear hcv S
          go_loop [8, 9] (fun v8 v9 => ∃ k : Nat, v8 = .int .i64 (-1) ∧ v9 = .int .i64 k ∧ (k : Int) ≤ (u.size : Int)) (fun v8 v9 => u.size - (Go.RowKit.intOf v9).toNat)
          case atStart => exact ⟨0, rfl, rfl, by omega⟩
          case round =>
            obtain ⟨i, rfl, rfl, hi1⟩ := hrel
            by_cases hlt : (i : Int) < (u.size : Int)
            · have hi2 : i < u.size := by omega
              have z35 : (((u[i].toNat : Nat) : Int) == 35) = false := by rw [beq_eq_false_iff_ne]; exact HI.out i hi2
              go_wp2
              go_round
              case rel => exact ⟨i + 1, rfl, by go_num, by omega⟩
              case measure => simp [Go.RowKit.intOf]; omega
            · go_wp2_with (go_at_call 16; refine (P16.out _).mono ?_; rintro e w' ⟨rfl, hw'⟩; subst hw')
              all_goals go_ret
              all_goals first | exact ⟨ret_i64 R.out, rfl⟩ | (refine ⟨ret_i64 ?_, rfl⟩; rw [← R.out]; unfold wrap64; rfl)

set_option maxHeartbeats 2000000 in
set_option maxRecDepth 20000 in
theorem m9_plus_dec2 (s t : ByteArray) (w : World) (hs : s.size ≤ 1073741824) (lo hi : Nat) (HC : Hid (CutS s t lo hi)) (hts : t.size ≤ 1073741824) (hpt : 0 < t.size) (V : Int) (n1 : ((t[0].toNat : Nat) : Int) = 43) (u : ByteArray) (hu : u = t.extract 1 t.size) (h1 : (2 : Int) ≤ (u.size : Int)) (hp0 : 0 < u.size) (m0 : ¬ ((u[0].toNat : Nat) : Int) = 48) (HI : Hid (∀ (j : Nat) (h : j < u.size), ¬ ((u[j].toNat : Nat) : Int) = 35)) (z : Int) (P16 : Hid (∀ W, Calls Tryd.prog 16 #[.string u, .int .i64 10] W fun e w' => e = .returned (.int .i64 z) ∧ W = w')) (R : Hid (z = V)) :
    Calls Tryd.prog 9 #[.string s] w fun e w' => e = .returned (.int .i64 V) ∧ w = w' := by
  have hpti : (0 : Int) < (t.size : Int) := by omega
  have honeT : (1 : Int) ≤ (t.size : Int) := by omega
  have hslU : ∀ W, (Instr.slice 9 (.string t) (some (.int .i64 1)) none none).run Tryd.prog W = .ok (.string u) W := fun W => by
    rw [hu, run_slice_string_from_if W 9 t .i64 _ Tryd.underlying9, if_pos ⟨by omega, by omega⟩]
    rfl
  have hus : u.size ≤ 1073741824 := by rw [hu, ByteArray.size_extract]; omega
  clear hu
  have z48 : (((u[0].toNat : Nat) : Int) == 48) = false := by rw [beq_eq_false_iff_ne]; exact m0
  clear m0
  obtain ⟨hle, hlen, f1, f2, f3, f4, heq⟩ := HC.out
  have F1 := Lib.hid f1
  have F2 := Lib.hid f2
  have F3 := Lib.hid f3
  have F4 := Lib.hid f4
  clear f1 f2 f3 f4
  have hlei : (lo : Int) < (hi : Int) := by omega
  have hleni : (hi : Int) ≤ (s.size : Int) := by omega
  have hslT : ∀ W, (Instr.slice 9 (.string s) (some (.int .i64 lo)) (some (.int .i64 hi)) none).run Tryd.prog W = .ok (.string t) W := fun W => by
    rw [heq, run_slice_string_if W 9 s .i64 .i64 _ _ Tryd.underlying9, if_pos ⟨by omega, by omega⟩, if_pos ⟨by omega, by omega⟩]
    rfl
  have S11 := Lib.hid (fun (c : UInt8) W => space11 c W)
  clear heq HC
  go_enter Tryd.func9, Tryd.ntmps9
  go_wp2
  go_loop [3] (fun v3 => ∃ k : Nat, v3 = .int .i64 k ∧ (k : Int) ≤ (lo : Int)) (fun v3 => s.size - (Go.RowKit.intOf v3).toNat)
  case atStart => exact ⟨0, rfl, by omega⟩
  case round =>
    obtain ⟨k, rfl, hk⟩ := hrel
    have hks : k < s.size := by omega
    have hki : (k : Int) < (s.size : Int) := by omega
    obtain ⟨c, hc⟩ : ∃ c, c = s[k] := ⟨_, rfl⟩
    have hcv : ((s[k].toNat : Nat) : Int) = ((c.toNat : Nat) : Int) := by rw [hc]
    have S := Lib.hid (fun W => S11.out c W)
    by_cases hkl : (k : Int) < (lo : Int)
    · have hb : isSp c = true := by rw [hc]; exact F1.out k hks (by omega)
      rw [hb] at S
      clear hc hb
      go_wp2_with (go_at_call 11; refine (S.out _).mono ?_; rintro e w' ⟨rfl, hw'⟩; subst hw')
      go_round
      case rel => exact ⟨k + 1, by go_num, by omega⟩
      case measure => simp [Go.RowKit.intOf]; omega
    · obtain rfl : k = lo := by omega
      have hb : isSp c = false := by rw [hc]; exact F2.out k hks rfl
      rw [hb] at S
      clear hc hb hkl hk
      go_wp2_with (go_at_call 11; refine (S.out _).mono ?_; rintro e w' ⟨rfl, hw'⟩; subst hw')
      clear hcv S
      go_loop [4] (fun v4 => ∃ m : Nat, v4 = .int .i64 m ∧ (hi : Int) ≤ (m : Int) ∧ (m : Int) ≤ (s.size : Int)) (fun v4 => (Go.RowKit.intOf v4).toNat)
      case atStart => exact ⟨s.size, rfl, by omega, by omega⟩
      case round =>
        obtain ⟨m, rfl, hm1, hm2⟩ := hrel
        obtain ⟨j, hj⟩ : ∃ j, m = j + 1 := ⟨m - 1, by omega⟩
        have hje : (m : Int) - 1 = (j : Int) := by omega
        have hjs : j < s.size := by omega
        have hji : (j : Int) < (s.size : Int) := by omega
        have hkm : (k : Int) < (m : Int) := by omega
        obtain ⟨c, hc⟩ : ∃ c, c = s[j] := ⟨_, rfl⟩
        have hcv : ((s[j].toNat : Nat) : Int) = ((c.toNat : Nat) : Int) := by rw [hc]
        have S := Lib.hid (fun W => S11.out c W)
        have HJ := Lib.hid hj
        by_cases hmh : (hi : Int) < (m : Int)
        · have hb : isSp c = true := by rw [hc]; exact F3.out j hjs (by omega)
          rw [hb] at S
          clear hc hb hj
          go_wp2_with (go_at_call 11; refine (S.out _).mono ?_; rintro e w' ⟨rfl, hw'⟩; subst hw')
          go_round
          case rel => exact ⟨j, rfl, by have := HJ.out; omega, by omega⟩
          case measure => have := HJ.out; simp [Go.RowKit.intOf]; omega
        · have hb : isSp c = false := by rw [hc]; exact F4.out j hjs (by omega)
          rw [hb] at S
          obtain rfl : m = hi := by omega
          clear hc hb hj HJ hm1 hmh
          go_wp2_with (go_at_call 11; refine (S.out _).mono ?_; rintro e w' ⟨rfl, hw'⟩; subst hw')
          clear hcv S
          go_loop [8, 9] (fun v8 v9 => ∃ k : Nat, v8 = .int .i64 (-1) ∧ v9 = .int .i64 k ∧ (k : Int) ≤ (u.size : Int)) (fun v8 v9 => u.size - (Go.RowKit.intOf v9).toNat)
          case atStart => exact ⟨0, rfl, rfl, by omega⟩
          case round =>
            obtain ⟨i, rfl, rfl, hi1⟩ := hrel
            by_cases hlt : (i : Int) < (u.size : Int)
            · have hi2 : i < u.size := by omega
              have z35 : (((u[i].toNat : Nat) : Int) == 35) = false := by rw [beq_eq_false_iff_ne]; exact HI.out i hi2
              go_wp2
              go_round
              case rel => exact ⟨i + 1, rfl, by go_num, by omega⟩
              case measure => simp [Go.RowKit.intOf]; omega
            · go_wp2_with (go_at_call 16; refine (P16.out _).mono ?_; rintro e w' ⟨rfl, hw'⟩; subst hw')
              all_goals go_ret
              all_goals first | exact ⟨ret_i64 R.out, rfl⟩ | (refine ⟨ret_i64 ?_, rfl⟩; rw [← R.out]; unfold wrap64; rfl)

set_option maxHeartbeats 2000000 in
set_option maxRecDepth 20000 in
theorem m9_plus_sep1 (s t : ByteArray) (w : World) (hs : s.size ≤ 1073741824) (lo hi : Nat) (HC : Hid (CutS s t lo hi)) (hts : t.size ≤ 1073741824) (hpt : 0 < t.size) (V : Int) (n1 : ((t[0].toNat : Nat) : Int) = 43) (u : ByteArray) (hu : u = t.extract 1 t.size) (h1 : (u.size : Int) = 1) (hp0 : 0 < u.size) (m0 : ¬ ((u[0].toNat : Nat) : Int) = 48) (p : Nat) (hp : p < u.size) (ip : ((u[p].toNat : Nat) : Int) = 35) (HI : Hid (∀ (j : Nat) (h : j < u.size), j < p → ¬ ((u[j].toNat : Nat) : Int) = 35)) (aa bb : ByteArray) (hbb : bb = u.extract 0 p) (haa : aa = u.extract (p + 1) u.size) (nb : Int) (B17 : Hid (∀ W, Calls Tryd.prog 17 #[.string bb] W fun e w' => e = .returned (.int .i64 nb) ∧ W = w')) (z : Int) (hn : SepWay nb aa z id V) :
    Calls Tryd.prog 9 #[.string s] w fun e w' => e = .returned (.int .i64 V) ∧ w = w' := by
  have hpti : (0 : Int) < (t.size : Int) := by omega
  have honeT : (1 : Int) ≤ (t.size : Int) := by omega
  have hslU : ∀ W, (Instr.slice 9 (.string t) (some (.int .i64 1)) none none).run Tryd.prog W = .ok (.string u) W := fun W => by
    rw [hu, run_slice_string_from_if W 9 t .i64 _ Tryd.underlying9, if_pos ⟨by omega, by omega⟩]
    rfl
  have hus : u.size ≤ 1073741824 := by rw [hu, ByteArray.size_extract]; omega
  clear hu
  have z48 : (((u[0].toNat : Nat) : Int) == 48) = false := by rw [beq_eq_false_iff_ne]; exact m0
  clear m0
  have hpi : (p : Int) < (u.size : Int) := by omega
  have hslB : ∀ W, (Instr.slice 9 (.string u) none (some (.int .i64 p)) none).run Tryd.prog W = .ok (.string bb) W := fun W => by
    rw [hbb, run_slice_string_to_if W 9 u .i64 _ Tryd.underlying9, if_pos ⟨by omega, by omega⟩]
    rfl
  have hslA : ∀ W, (Instr.slice 9 (.string u) (some (.int .i64 ((p : Int) + 1))) none none).run Tryd.prog W = .ok (.string aa) W := fun W => by
    rw [haa, run_slice_string_from_if W 9 u .i64 _ Tryd.underlying9, if_pos ⟨by omega, by omega⟩]
    rfl
  clear haa hbb
  obtain ⟨hle, hlen, f1, f2, f3, f4, heq⟩ := HC.out
  have F1 := Lib.hid f1
  have F2 := Lib.hid f2
  have F3 := Lib.hid f3
  have F4 := Lib.hid f4
  clear f1 f2 f3 f4
  have hlei : (lo : Int) < (hi : Int) := by omega
  have hleni : (hi : Int) ≤ (s.size : Int) := by omega
  have hslT : ∀ W, (Instr.slice 9 (.string s) (some (.int .i64 lo)) (some (.int .i64 hi)) none).run Tryd.prog W = .ok (.string t) W := fun W => by
    rw [heq, run_slice_string_if W 9 s .i64 .i64 _ _ Tryd.underlying9, if_pos ⟨by omega, by omega⟩, if_pos ⟨by omega, by omega⟩]
    rfl
  have S11 := Lib.hid (fun (c : UInt8) W => space11 c W)
  clear heq HC
  go_enter Tryd.func9, Tryd.ntmps9
  go_wp2
  go_loop [3] (fun v3 => ∃ k : Nat, v3 = .int .i64 k ∧ (k : Int) ≤ (lo : Int)) (fun v3 => s.size - (Go.RowKit.intOf v3).toNat)
  case atStart => exact ⟨0, rfl, by omega⟩
  case round =>
    obtain ⟨k, rfl, hk⟩ := hrel
    have hks : k < s.size := by omega
    have hki : (k : Int) < (s.size : Int) := by omega
    obtain ⟨c, hc⟩ : ∃ c, c = s[k] := ⟨_, rfl⟩
    have hcv : ((s[k].toNat : Nat) : Int) = ((c.toNat : Nat) : Int) := by rw [hc]
    have S := Lib.hid (fun W => S11.out c W)
    by_cases hkl : (k : Int) < (lo : Int)
    · have hb : isSp c = true := by rw [hc]; exact F1.out k hks (by omega)
      rw [hb] at S
      clear hc hb
      go_wp2_with (go_at_call 11; refine (S.out _).mono ?_; rintro e w' ⟨rfl, hw'⟩; subst hw')
      go_round
      case rel => exact ⟨k + 1, by go_num, by omega⟩
      case measure => simp [Go.RowKit.intOf]; omega
    · obtain rfl : k = lo := by omega
      have hb : isSp c = false := by rw [hc]; exact F2.out k hks rfl
      rw [hb] at S
      clear hc hb hkl hk
      go_wp2_with (go_at_call 11; refine (S.out _).mono ?_; rintro e w' ⟨rfl, hw'⟩; subst hw')
      clear hcv S
      go_loop [4] (fun v4 => ∃ m : Nat, v4 = .int .i64 m ∧ (hi : Int) ≤ (m : Int) ∧ (m : Int) ≤ (s.size : Int)) (fun v4 => (Go.RowKit.intOf v4).toNat)
      case atStart => exact ⟨s.size, rfl, by omega, by omega⟩
      case round =>
        obtain ⟨m, rfl, hm1, hm2⟩ := hrel
        obtain ⟨j, hj⟩ : ∃ j, m = j + 1 := ⟨m - 1, by omega⟩
        have hje : (m : Int) - 1 = (j : Int) := by omega
        have hjs : j < s.size := by omega
        have hji : (j : Int) < (s.size : Int) := by omega
        have hkm : (k : Int) < (m : Int) := by omega
        obtain ⟨c, hc⟩ : ∃ c, c = s[j] := ⟨_, rfl⟩
        have hcv : ((s[j].toNat : Nat) : Int) = ((c.toNat : Nat) : Int) := by rw [hc]
        have S := Lib.hid (fun W => S11.out c W)
        have HJ := Lib.hid hj
        by_cases hmh : (hi : Int) < (m : Int)
        · have hb : isSp c = true := by rw [hc]; exact F3.out j hjs (by omega)
          rw [hb] at S
          clear hc hb hj
          go_wp2_with (go_at_call 11; refine (S.out _).mono ?_; rintro e w' ⟨rfl, hw'⟩; subst hw')
          go_round
          case rel => exact ⟨j, rfl, by have := HJ.out; omega, by omega⟩
          case measure => have := HJ.out; simp [Go.RowKit.intOf]; omega
        · have hb : isSp c = false := by rw [hc]; exact F4.out j hjs (by omega)
          rw [hb] at S
          obtain rfl : m = hi := by omega
          clear hc hb hj HJ hm1 hmh
          go_wp2_with (go_at_call 11; refine (S.out _).mono ?_; rintro e w' ⟨rfl, hw'⟩; subst hw')
          clear hcv S
          go_loop [8, 9] (fun v8 v9 => ∃ k : Nat, v8 = .int .i64 (-1) ∧ v9 = .int .i64 k ∧ (k : Int) ≤ (p : Int)) (fun v8 v9 => u.size - (Go.RowKit.intOf v9).toNat)
          case atStart => exact ⟨0, rfl, rfl, by omega⟩
          case round =>
            obtain ⟨i, rfl, rfl, hi1⟩ := hrel
            have hlt : (i : Int) < (u.size : Int) := by omega
            have hi2 : i < u.size := by omega
            by_cases hip : (i : Int) < (p : Int)
            · exfalso; omega
            · obtain rfl : i = p := by omega
              have hneg : ¬ (i : Int) < 0 := by omega
              cases hn with
              | bad hz R0 =>
                have R := Lib.hid R0
                clear R0
                subst hz
                go_wp2_with (go_at_call 17; refine (B17.out _).mono ?_; rintro e w' ⟨rfl, hw'⟩; subst hw')
                all_goals go_ret
                all_goals exact ⟨ret_i64 R.out, rfl⟩
              | big g1 P R0 =>
                have R : Hid (z = V) := Lib.hid R0
                have P18 := Lib.hid P
                clear P R0
                have hz : ¬ nb = 0 := by omega
                have hzb : (nb == 0) = false := by rw [beq_eq_false_iff_ne]; exact hz

                go_wp2_with (first | (go_at_call 17; refine (B17.out _).mono ?_; rintro e w' ⟨rfl, hw'⟩; subst hw') | (go_at_call 18; refine (P18.out _).mono ?_; rintro e w' ⟨rfl, hw'⟩; subst hw'))
                all_goals go_ret
                all_goals first | exact ⟨ret_i64 R.out, rfl⟩ | (refine ⟨ret_i64 ?_, rfl⟩; rw [← R.out]; unfold wrap64; rfl)
              | small g1 g2 P R0 =>
                have R : Hid (z = V) := Lib.hid R0
                have P16 := Lib.hid P
                clear P R0
                have hz : ¬ nb = 0 := by omega
                have hzb : (nb == 0) = false := by rw [beq_eq_false_iff_ne]; exact hz

                go_wp2_with (first | (go_at_call 17; refine (B17.out _).mono ?_; rintro e w' ⟨rfl, hw'⟩; subst hw') | (go_at_call 16; refine (P16.out _).mono ?_; rintro e w' ⟨rfl, hw'⟩; subst hw'))
                all_goals go_ret
                all_goals first | exact ⟨ret_i64 R.out, rfl⟩ | (refine ⟨ret_i64 ?_, rfl⟩; rw [← R.out]; unfold wrap64; rfl)

set_option maxHeartbeats 2000000 in
set_option maxRecDepth 20000 in
theorem m9_plus_sep2 (s t : ByteArray) (w : World) (hs : s.size ≤ 1073741824) (lo hi : Nat) (HC : Hid (CutS s t lo hi)) (hts : t.size ≤ 1073741824) (hpt : 0 < t.size) (V : Int) (n1 : ((t[0].toNat : Nat) : Int) = 43) (u : ByteArray) (hu : u = t.extract 1 t.size) (h1 : (2 : Int) ≤ (u.size : Int)) (hp0 : 0 < u.size) (m0 : ¬ ((u[0].toNat : Nat) : Int) = 48) (p : Nat) (hp : p < u.size) (ip : ((u[p].toNat : Nat) : Int) = 35) (HI : Hid (∀ (j : Nat) (h : j < u.size), j < p → ¬ ((u[j].toNat : Nat) : Int) = 35)) (aa bb : ByteArray) (hbb : bb = u.extract 0 p) (haa : aa = u.extract (p + 1) u.size) (nb : Int) (B17 : Hid (∀ W, Calls Tryd.prog 17 #[.string bb] W fun e w' => e = .returned (.int .i64 nb) ∧ W = w')) (z : Int) (hn : SepWay nb aa z id V) :
    Calls Tryd.prog 9 #[.string s] w fun e w' => e = .returned (.int .i64 V) ∧ w = w' := by
  have hpti : (0 : Int) < (t.size : Int) := by omega
  have honeT : (1 : Int) ≤ (t.size : Int) := by omega
  have hslU : ∀ W, (Instr.slice 9 (.string t) (some (.int .i64 1)) none none).run Tryd.prog W = .ok (.string u) W := fun W => by
    rw [hu, run_slice_string_from_if W 9 t .i64 _ Tryd.underlying9, if_pos ⟨by omega, by omega⟩]
    rfl
  have hus : u.size ≤ 1073741824 := by rw [hu, ByteArray.size_extract]; omega
  clear hu
  have z48 : (((u[0].toNat : Nat) : Int) == 48) = false := by rw [beq_eq_false_iff_ne]; exact m0
  clear m0
  have hpi : (p : Int) < (u.size : Int) := by omega
  have hslB : ∀ W, (Instr.slice 9 (.string u) none (some (.int .i64 p)) none).run Tryd.prog W = .ok (.string bb) W := fun W => by
    rw [hbb, run_slice_string_to_if W 9 u .i64 _ Tryd.underlying9, if_pos ⟨by omega, by omega⟩]
    rfl
  have hslA : ∀ W, (Instr.slice 9 (.string u) (some (.int .i64 ((p : Int) + 1))) none none).run Tryd.prog W = .ok (.string aa) W := fun W => by
    rw [haa, run_slice_string_from_if W 9 u .i64 _ Tryd.underlying9, if_pos ⟨by omega, by omega⟩]
    rfl
  clear haa hbb
  obtain ⟨hle, hlen, f1, f2, f3, f4, heq⟩ := HC.out
  have F1 := Lib.hid f1
  have F2 := Lib.hid f2
  have F3 := Lib.hid f3
  have F4 := Lib.hid f4
  clear f1 f2 f3 f4
  have hlei : (lo : Int) < (hi : Int) := by omega
  have hleni : (hi : Int) ≤ (s.size : Int) := by omega
  have hslT : ∀ W, (Instr.slice 9 (.string s) (some (.int .i64 lo)) (some (.int .i64 hi)) none).run Tryd.prog W = .ok (.string t) W := fun W => by
    rw [heq, run_slice_string_if W 9 s .i64 .i64 _ _ Tryd.underlying9, if_pos ⟨by omega, by omega⟩, if_pos ⟨by omega, by omega⟩]
    rfl
  have S11 := Lib.hid (fun (c : UInt8) W => space11 c W)
  clear heq HC
  go_enter Tryd.func9, Tryd.ntmps9
  go_wp2
  go_loop [3] (fun v3 => ∃ k : Nat, v3 = .int .i64 k ∧ (k : Int) ≤ (lo : Int)) (fun v3 => s.size - (Go.RowKit.intOf v3).toNat)
  case atStart => exact ⟨0, rfl, by omega⟩
  case round =>
    obtain ⟨k, rfl, hk⟩ := hrel
    have hks : k < s.size := by omega
    have hki : (k : Int) < (s.size : Int) := by omega
    obtain ⟨c, hc⟩ : ∃ c, c = s[k] := ⟨_, rfl⟩
    have hcv : ((s[k].toNat : Nat) : Int) = ((c.toNat : Nat) : Int) := by rw [hc]
    have S := Lib.hid (fun W => S11.out c W)
    by_cases hkl : (k : Int) < (lo : Int)
    · have hb : isSp c = true := by rw [hc]; exact F1.out k hks (by omega)
      rw [hb] at S
      clear hc hb
      go_wp2_with (go_at_call 11; refine (S.out _).mono ?_; rintro e w' ⟨rfl, hw'⟩; subst hw')
      go_round
      case rel => exact ⟨k + 1, by go_num, by omega⟩
      case measure => simp [Go.RowKit.intOf]; omega
    · obtain rfl : k = lo := by omega
      have hb : isSp c = false := by rw [hc]; exact F2.out k hks rfl
      rw [hb] at S
      clear hc hb hkl hk
      go_wp2_with (go_at_call 11; refine (S.out _).mono ?_; rintro e w' ⟨rfl, hw'⟩; subst hw')
      clear hcv S
      go_loop [4] (fun v4 => ∃ m : Nat, v4 = .int .i64 m ∧ (hi : Int) ≤ (m : Int) ∧ (m : Int) ≤ (s.size : Int)) (fun v4 => (Go.RowKit.intOf v4).toNat)
      case atStart => exact ⟨s.size, rfl, by omega, by omega⟩
      case round =>
        obtain ⟨m, rfl, hm1, hm2⟩ := hrel
        obtain ⟨j, hj⟩ : ∃ j, m = j + 1 := ⟨m - 1, by omega⟩
        have hje : (m : Int) - 1 = (j : Int) := by omega
        have hjs : j < s.size := by omega
        have hji : (j : Int) < (s.size : Int) := by omega
        have hkm : (k : Int) < (m : Int) := by omega
        obtain ⟨c, hc⟩ : ∃ c, c = s[j] := ⟨_, rfl⟩
        have hcv : ((s[j].toNat : Nat) : Int) = ((c.toNat : Nat) : Int) := by rw [hc]
        have S := Lib.hid (fun W => S11.out c W)
        have HJ := Lib.hid hj
        by_cases hmh : (hi : Int) < (m : Int)
        · have hb : isSp c = true := by rw [hc]; exact F3.out j hjs (by omega)
          rw [hb] at S
          clear hc hb hj
          go_wp2_with (go_at_call 11; refine (S.out _).mono ?_; rintro e w' ⟨rfl, hw'⟩; subst hw')
          go_round
          case rel => exact ⟨j, rfl, by have := HJ.out; omega, by omega⟩
          case measure => have := HJ.out; simp [Go.RowKit.intOf]; omega
        · have hb : isSp c = false := by rw [hc]; exact F4.out j hjs (by omega)
          rw [hb] at S
          obtain rfl : m = hi := by omega
          clear hc hb hj HJ hm1 hmh
          go_wp2_with (go_at_call 11; refine (S.out _).mono ?_; rintro e w' ⟨rfl, hw'⟩; subst hw')
          clear hcv S
          go_loop [8, 9] (fun v8 v9 => ∃ k : Nat, v8 = .int .i64 (-1) ∧ v9 = .int .i64 k ∧ (k : Int) ≤ (p : Int)) (fun v8 v9 => u.size - (Go.RowKit.intOf v9).toNat)
          case atStart => exact ⟨0, rfl, rfl, by omega⟩
          case round =>
            obtain ⟨i, rfl, rfl, hi1⟩ := hrel
            have hlt : (i : Int) < (u.size : Int) := by omega
            have hi2 : i < u.size := by omega
            by_cases hip : (i : Int) < (p : Int)
            · have z35 : (((u[i].toNat : Nat) : Int) == 35) = false := by rw [beq_eq_false_iff_ne]; exact HI.out i hi2 (by omega)
              go_wp2
              go_round
              case rel => exact ⟨i + 1, rfl, by go_num, by omega⟩
              case measure => simp [Go.RowKit.intOf]; omega
            · obtain rfl : i = p := by omega
              have hneg : ¬ (i : Int) < 0 := by omega
              cases hn with
              | bad hz R0 =>
                have R := Lib.hid R0
                clear R0
                subst hz
                go_wp2_with (go_at_call 17; refine (B17.out _).mono ?_; rintro e w' ⟨rfl, hw'⟩; subst hw')
                all_goals go_ret
                all_goals exact ⟨ret_i64 R.out, rfl⟩
              | big g1 P R0 =>
                have R : Hid (z = V) := Lib.hid R0
                have P18 := Lib.hid P
                clear P R0
                have hz : ¬ nb = 0 := by omega
                have hzb : (nb == 0) = false := by rw [beq_eq_false_iff_ne]; exact hz

                go_wp2_with (first | (go_at_call 17; refine (B17.out _).mono ?_; rintro e w' ⟨rfl, hw'⟩; subst hw') | (go_at_call 18; refine (P18.out _).mono ?_; rintro e w' ⟨rfl, hw'⟩; subst hw'))
                all_goals go_ret
                all_goals first | exact ⟨ret_i64 R.out, rfl⟩ | (refine ⟨ret_i64 ?_, rfl⟩; rw [← R.out]; unfold wrap64; rfl)
              | small g1 g2 P R0 =>
                have R : Hid (z = V) := Lib.hid R0
                have P16 := Lib.hid P
                clear P R0
                have hz : ¬ nb = 0 := by omega
                have hzb : (nb == 0) = false := by rw [beq_eq_false_iff_ne]; exact hz

                go_wp2_with (first | (go_at_call 17; refine (B17.out _).mono ?_; rintro e w' ⟨rfl, hw'⟩; subst hw') | (go_at_call 16; refine (P16.out _).mono ?_; rintro e w' ⟨rfl, hw'⟩; subst hw'))
                all_goals go_ret
                all_goals first | exact ⟨ret_i64 R.out, rfl⟩ | (refine ⟨ret_i64 ?_, rfl⟩; rw [← R.out]; unfold wrap64; rfl)

theorem m9_plus (s t : ByteArray) (w : World) (hs : s.size ≤ 1073741824) (lo hi : Nat) (HC : Hid (CutS s t lo hi)) (hts : t.size ≤ 1073741824) (hpt : 0 < t.size) (V : Int) (n1 : ((t[0].toNat : Nat) : Int) = 43) (u : ByteArray) (hu : u = t.extract 1 t.size) (HV : V = body u.data.toList) :
    Calls Tryd.prog 9 #[.string s] w fun e w' => e = .returned (.int .i64 V) ∧ w = w' := by
  have hus : u.size ≤ 1073741824 := by rw [hu, ByteArray.size_extract]; omega
  have P : ∀ (b : Nat), 2 ≤ b → b ≤ 36 → ∀ x : ByteArray, x.size ≤ 1073741824 → Hid (∀ W, Calls Tryd.prog 16 #[.string x, .int .i64 b] W fun e w' => e = .returned (.int .i64 (pi b x.data.toList)) ∧ W = w') := fun b h1 h2 x hx => Lib.hid fun W => parse16 b h1 h2 x hx W
  have sz := Lib.size_eq u
  have at0 : ∀ (h : 0 < u.size) c r, u.data.toList = c :: r → ((u[0].toNat : Nat) : Int) = c.toNat := fun h c r e => by rw [Lib.getD_at u 0 h, e]; rfl
  have at1 : ∀ (h : 1 < u.size) c d r, u.data.toList = c :: d :: r → ((u[1].toNat : Nat) : Int) = d.toNat := fun h c d r e => by rw [Lib.getD_at u 1 h, e]; rfl
  have bnd : ∀ i, (u.extract i u.size).size ≤ 1073741824 := fun i => Nat.le_trans (ext_size u i) hus
  cases way u.data.toList with
  | hex r h =>
    have s2 : 2 ≤ u.size := by rw [sz, h]; simp
    exact m9_plus_hex s t w hs lo hi HC hts hpt V n1 u hu (by omega) (by omega) (by omega) (at0 (by omega) _ _ h) (at1 (by omega) _ _ _ h) _ rfl _ (P 16 (by decide) (by decide) _ (bnd 2)) (Lib.hid (by rw [HV, body_x h (.inl rfl), ext_list, h]; rfl))
  | heX r h =>
    have s2 : 2 ≤ u.size := by rw [sz, h]; simp
    exact m9_plus_heX s t w hs lo hi HC hts hpt V n1 u hu (by omega) (by omega) (by omega) (at0 (by omega) _ _ h) (at1 (by omega) _ _ _ h) _ rfl _ (P 16 (by decide) (by decide) _ (bnd 2)) (Lib.hid (by rw [HV, body_x h (.inr rfl), ext_list, h]; rfl))
  | oct r h hx =>
    cases r with
    | nil =>
      have s1 : u.size = 1 := by rw [sz, h]; rfl
      exact m9_plus_oct1 s t w hs lo hi HC hts hpt V n1 u hu (by omega) (by omega) (at0 (by omega) _ _ h) _ rfl _ (P 8 (by decide) (by decide) _ (bnd 1)) (Lib.hid (by rw [HV, body_o h hx, ext_list, h]; rfl))
    | cons d r =>
      have s2 : 2 ≤ u.size := by rw [sz, h]; simp
      have hd : ∀ x : UInt8, ¬ d = x → ¬ ((u[1].toNat : Nat) : Int) = x.toNat := fun x hx e => hx (Lib.byte_eq_of_toNat ((at1 (by omega) _ _ _ h).symm.trans e))
      exact m9_plus_oct2 s t w hs lo hi HC hts hpt V n1 u hu (by omega) (by omega) (hd 120 (fun e => hx (.inl (by rw [e]; rfl)))) (hd 88 (fun e => hx (.inr (by rw [e]; rfl)))) (by omega) (at0 (by omega) _ _ h) _ rfl _ (P 8 (by decide) (by decide) _ (bnd 1)) (Lib.hid (by rw [HV, body_o h hx, ext_list, h]; rfl))
  | dec h hh =>
    have HI : Hid (∀ (j : Nat) (h : j < u.size), ¬ ((u[j].toNat : Nat) : Int) = 35) := Lib.hid fun j hj e => indexByte_none hh j (by rw [Lib.data_getElem? u j hj, show u[j] = 35 from Lib.byte_eq_of_toNat e])
    cases hl : u.data.toList with
    | nil => exact m9_plus_dec0 s t w hs lo hi HC hts hpt V n1 u hu (by rw [Lib.size_eq, hl]; rfl) HI _ (P 10 (by decide) (by decide) u hus) (Lib.hid (by rw [HV, body_d h hh]))
    | cons c r =>
      have n0 : ∀ (h0 : 0 < u.size), ¬ ((u[0].toNat : Nat) : Int) = 48 := fun h0 e => h (by rw [hl, show c = 48 from Lib.byte_eq_of_toNat ((at0 h0 _ _ hl).symm.trans e)]; rfl)
      cases r with
      | nil =>
        have s1 : u.size = 1 := by rw [sz, hl]; rfl
        exact m9_plus_dec1 s t w hs lo hi HC hts hpt V n1 u hu (by omega) (by omega) (n0 _) HI _ (P 10 (by decide) (by decide) u hus) (Lib.hid (by rw [HV, body_d h hh]))
      | cons d r =>
        have s2 : 2 ≤ u.size := by rw [sz, hl]; simp
        exact m9_plus_dec2 s t w hs lo hi HC hts hpt V n1 u hu (by omega) (by omega) (n0 _) HI _ (P 10 (by decide) (by decide) u hus) (Lib.hid (by rw [HV, body_d h hh]))
  | sep i h hh =>
    obtain ⟨hi1, hi2⟩ := indexByte_some hh
    have hil : i < u.size := by rw [sz]; exact (List.getElem?_eq_some_iff.1 hi1).1
    have hip : ((u[i].toNat : Nat) : Int) = 35 := by
      rw [Lib.data_getElem? u i hil] at hi1
      rw [Option.some.inj hi1]; rfl
    have HI : Hid (∀ (j : Nat) (h : j < u.size), j < i → ¬ ((u[j].toNat : Nat) : Int) = 35) := Lib.hid fun j hj hji e => hi2 j hji (by rw [Lib.data_getElem? u j hj, show u[j] = 35 from Lib.byte_eq_of_toNat e])
    have hla : (u.extract (i + 1) u.size).data.toList = u.data.toList.drop (i + 1) := by rw [ext_list]
    have hlb : (u.extract 0 i).data.toList = u.data.toList.take i := by rw [cut_left]
    have hbs : (u.extract 0 i).size ≤ 1073741824 := by rw [ByteArray.size_extract]; omega
    have B17 : Hid (∀ W, Calls Tryd.prog 17 #[.string (u.extract 0 i)] W fun e w' => e = .returned (.int .i64 ((bas (u.data.toList.take i) : Nat) : Int)) ∧ W = w') := Lib.hid fun W => by rw [← hlb]; exact base17 _ hbs W
    obtain ⟨nb, hnb⟩ : ∃ nb, nb = bas (u.data.toList.take i) := ⟨_, rfl⟩
    rw [← hnb] at B17
    have hS := body_s h hh
    unfold sepV at hS
    rw [← hnb] at hS
    have h64 := bas_le (u.data.toList.take i)
    rw [← hnb] at h64
    obtain ⟨z, hn⟩ : ∃ z, SepWay (nb : Int) (u.extract (i + 1) u.size) z id V := by
      by_cases e0 : nb = 0
      · exact ⟨0, .bad (by omega) (by rw [HV, hS, if_pos e0] <;> rfl)⟩
      · rw [if_neg e0] at hS
        by_cases hg : 36 < nb
        · rw [if_pos hg] at hS
          exact ⟨_, .big (by omega) (fun W => large18 nb (by omega) (by omega) _ (bnd (i + 1)) W) (by rw [HV, hS, hla] <;> rfl)⟩
        · rw [if_neg hg] at hS
          exact ⟨_, .small (by omega) (by omega) (P nb (by omega) (by omega) _ (bnd (i + 1))).out (by rw [HV, hS, hla] <;> rfl)⟩
    cases hl : u.data.toList with
    | nil => rw [hl] at hi1; simp at hi1
    | cons c r =>
      have n0 : ∀ (h0 : 0 < u.size), ¬ ((u[0].toNat : Nat) : Int) = 48 := fun h0 e => h (by rw [hl, show c = 48 from Lib.byte_eq_of_toNat ((at0 h0 _ _ hl).symm.trans e)]; rfl)
      cases r with
      | nil =>
        have s1 : u.size = 1 := by rw [sz, hl]; rfl
        exact m9_plus_sep1 s t w hs lo hi HC hts hpt V n1 u hu (by omega) (by omega) (n0 _) i hil hip HI _ _ rfl rfl _ B17 z hn
      | cons d r =>
        have s2 : 2 ≤ u.size := by rw [sz, hl]; simp
        exact m9_plus_sep2 s t w hs lo hi HC hts hpt V n1 u hu (by omega) (by omega) (n0 _) i hil hip HI _ _ rfl rfl _ B17 z hn
end Go.Proofs.YtopaaaacbegmnaaDoor
