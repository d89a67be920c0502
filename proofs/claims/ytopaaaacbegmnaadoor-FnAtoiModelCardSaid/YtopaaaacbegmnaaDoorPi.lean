/-
  The walks of internal/strconv.ParseInt and strconv.ParseInt at 64 bits, at every base from 2 to 36: the number that is handed back, whatever the error (printed by genpi.py). Conditions: those in each theorem.
-/
import Derived.Test.YtopaaaacbegmnaaDoorPu
import Derived.Below
import Derived.Lib.Bytes
import Derived.Lib.ItoaWalk
namespace Go.Proofs.YtopaaaacbegmnaaDoor
set_option linter.unusedVariables false
open Go.Shelf Go.RowKit Go.Lib

/-- ParseUint's word, the empty text among them -/
def puE (b : Nat) (l : List UInt8) : PE := if l = [] then .bad else pu b 0 l
theorem piV_puE (n : Bool) (b : Nat) (l : List UInt8) : piV n (puE b l) = piV n (pu b 0 l) := by
  unfold puE
  split
  · rename_i h; subst h; cases n <;> rfl
  · rfl
theorem puE_lt (b : Nat) (l : List UInt8) (u : Nat) (h : puE b l = .ok u) : u < 18446744073709551616 := by
  unfold puE at h
  split at h
  · cases h
  · exact pu_lt b l 0 (by decide) u h
theorem bytesW_below (w : World) (t : ByteArray) : Below w.heap.size w (Lib.bytesWorld w 5 t) := ⟨rfl, rfl, rfl, by rw [Lib.bytesWorld_size]; omega, fun j hj => Lib.bytesWorld_at_old w 5 t j hj⟩

set_option maxRecDepth 100000 in
theorem uint43 (b : Nat) (h2 : 2 ≤ b) (h36 : b ≤ 36) (t : ByteArray) (hmax : t.size ≤ 1073741824) (w : World) :
    Calls Tryd.prog 43 #[.string t, .int .i64 b, .int .i64 64] w fun e w' => e = .returned (uTup (puE b t.data.toList)) ∧ Below w.heap.size w w' := by
  by_cases h0 : t.size = 0
  · have ht : t = ⟨#[]⟩ := by
      apply ByteArray.ext
      exact Array.eq_empty_of_size_eq_zero h0
    subst ht
    go_enter Tryd.func43, Tryd.ntmps43
    go_wp2
    go_ret2
    exact ⟨rfl, Below.refl _ _⟩
  · have hl : puE b t.data.toList = pu b 0 t.data.toList := by
      unfold puE
      rw [if_neg (fun h => h0 (by rw [Lib.size_eq, h]; rfl))]
    rw [hl]
    have fin : ∀ e w', (e = Ending.returned (uTup (pu b 0 t.data.toList)) ∧ w' = Lib.bytesWorld w 5 t) → e = Ending.returned (uTup (pu b 0 t.data.toList)) ∧ Below w.heap.size w w' := fun e w' ⟨h1, h2⟩ => ⟨h1, by rw [h2]; exact bytesW_below w t⟩
    by_cases h10 : b = 10
    · subst h10; exact (uint43_ten t h0 hmax w).mono fin
    · by_cases h16 : b = 16
      · subst h16; exact (uint43_hex t h0 hmax w).mono fin
      · exact (uint43_any b h2 h36 h10 h16 t h0 hmax w).mono fin

/-- an error of internal/strconv's, or none -/
def ErrV (e : Value) : Prop := e = .nilIface ∨ e = .iface 82 (.int .i64 1) ∨ e = .iface 82 (.int .i64 2)
/-- what ParseInt hands back -/
def IntOut (b : Nat) (l : List UInt8) (w : World) (e : Ending) (w' : World) : Prop := (∃ er, e = .returned (.tuple #[.int .i64 (pi b l), er]) ∧ ErrV er) ∧ Below w.heap.size w w'
theorem io_mk {b : Nat} {l : List UInt8} {w w' : World} {n : Int} {er : Value} (h : n = pi b l) (he : ErrV er) (hb : Below w.heap.size w w') : IntOut b l w (.returned (.tuple #[.int .i64 n, er])) w' := ⟨⟨er, by rw [h], he⟩, hb⟩
theorem pi_plus (b : Nat) (r : List UInt8) : pi b (43 :: r) = piV false (puE b r) := by rw [piV_puE]; rfl
theorem pi_minus (b : Nat) (r : List UInt8) : pi b (45 :: r) = piV true (puE b r) := by rw [piV_puE]; rfl
theorem pi_none (b : Nat) (c : UInt8) (r : List UInt8) (h1 : c ≠ 43) (h2 : c ≠ 45) : pi b (c :: r) = piV false (puE b (c :: r)) := by
  rw [piV_puE]
  show (if c = 43 then _ else if c = 45 then _ else _) = _
  rw [if_neg h1, if_neg h2]

set_option maxHeartbeats 8000000 in
set_option maxRecDepth 100000 in
theorem int36 (b : Nat) (h2 : 2 ≤ b) (h36 : b ≤ 36) (s : ByteArray) (hmax : s.size ≤ 1073741824) (w : World) :
    Calls Tryd.prog 36 #[.string s, .int .i64 b, .int .i64 64] w (IntOut b s.data.toList w) := by
  have hq2 : ∀ W, (binOp .neq 49 (.iface 82 (.int .i64 2)) (.iface 82 (.int .i64 1))).run Tryd.prog W = .ok (.bool true) W := fun W => by kernel_rfl
  have hq1 : ∀ W, (binOp .neq 49 (.iface 82 (.int .i64 1)) (.iface 82 (.int .i64 1))).run Tryd.prog W = .ok (.bool false) W := fun W => by kernel_rfl
  have hmin : wrap64 (-wrap64 9223372036854775808) = -9223372036854775808 := by
    unfold wrap64
    omega
  by_cases h0 : s.size = 0
  · have hs : s = ⟨#[]⟩ := by
      apply ByteArray.ext
      exact Array.eq_empty_of_size_eq_zero h0
    subst hs
    go_enter Tryd.func36, Tryd.ntmps36
    go_wp2
    go_ret2
    exact io_mk rfl (.inr (.inr rfl)) (Below.refl _ _)
  have hemp : s.toList.isEmpty = false := by
    rw [← decide_eq_emptyBytes]
    exact decide_eq_false (fun h => h0 (by rw [h]; rfl))
  have hpos : 0 < s.size := by omega
  have hposi : (0 : Int) < (s.size : Int) := by omega
  have hone : (1 : Int) ≤ (s.size : Int) := by omega
  obtain ⟨c0, r, hL⟩ : ∃ c0 r, s.data.toList = c0 :: r := by
    cases h : s.data.toList with
    | nil => exact absurd (by rw [Lib.size_eq, h]; rfl) h0
    | cons c0 r => exact ⟨c0, r, rfl⟩
  have hs0 : s[0]'hpos = c0 := by have := Lib.getD_at s 0 hpos; rw [hL] at this; exact this
  have hc256 : ((c0.toNat : Nat) : Int) < 256 := by have := c0.toNat_lt; omega
  have htl : (s.extract 1 s.size).data.toList = r := by
    rw [Lib.extract_data, hL, List.drop_succ_cons, List.drop_zero, List.take_of_length_le (by have := Lib.size_eq s; rw [hL] at this; simp at this; omega)]
  have hts : (s.extract 1 s.size).size ≤ 1073741824 := by rw [ByteArray.size_extract]; omega

  by_cases h43 : c0 = 43
  · subst h43
    rw [hL]
    have U0 := Lib.hid (uint43 b h2 h36 (s.extract 1 s.size) hts w)
    rw [htl] at U0
    have HP := Lib.hid (pi_plus b r)
    cases hE : puE b (r) with
    | bad =>
      rw [hE] at U0 HP
      have U : Hid (Calls Tryd.prog 43 #[.string (s.extract 1 s.size), .int .i64 b, .int .i64 64] w fun e w' => e = .returned (.tuple #[.int .u64 0, .iface 82 (.int .i64 2)]) ∧ Below w.heap.size w w') := U0
      clear U0 hL hE
      go_enter Tryd.func36, Tryd.ntmps36
      go_wp2_with (go_at_call 43; refine U.out.mono ?_; rintro e w1 ⟨rfl, hb⟩; have HB := Lib.hid hb; clear hb U)
      all_goals go_ret2
      all_goals exact io_mk (by first | exact HP.out.symm | (rw [hmin]; exact HP.out.symm)) (.inr (.inr rfl)) HB.out
    | over =>
      rw [hE] at U0 HP
      have U : Hid (Calls Tryd.prog 43 #[.string (s.extract 1 s.size), .int .i64 b, .int .i64 64] w fun e w' => e = .returned (.tuple #[.int .u64 18446744073709551615, .iface 82 (.int .i64 1)]) ∧ Below w.heap.size w w') := U0
      clear U0 hL hE
      go_enter Tryd.func36, Tryd.ntmps36
      go_wp2_with (go_at_call 43; refine U.out.mono ?_; rintro e w1 ⟨rfl, hb⟩; have HB := Lib.hid hb; clear hb U)
      all_goals go_ret2
      all_goals exact io_mk (by first | exact HP.out.symm | (rw [hmin]; exact HP.out.symm)) (.inr (.inl rfl)) HB.out
    | ok u =>
      have hu := puE_lt b _ u hE
      rw [hE] at U0 HP
      have U : Hid (Calls Tryd.prog 43 #[.string (s.extract 1 s.size), .int .i64 b, .int .i64 64] w fun e w' => e = .returned (.tuple #[.int .u64 u, .nilIface]) ∧ Below w.heap.size w w') := U0
      obtain ⟨z, hz⟩ : ∃ z : Int, z = (u : Int) := ⟨_, rfl⟩
      rw [← hz] at U
      have hui : z < 18446744073709551616 := by omega
      have hz0 : 0 ≤ z := by omega
      by_cases hc : (9223372036854775808 : Int) ≤ z
      · have hv : pi b (43 :: r) = 9223372036854775807 := by rw [HP.out]; show (if 9223372036854775808 ≤ u then _ else _) = _; rw [if_pos (by omega)]
        clear HP hu hz
        clear U0 hL hE
        go_enter Tryd.func36, Tryd.ntmps36
        go_wp2_with (go_at_call 43; refine U.out.mono ?_; rintro e w1 ⟨rfl, hb⟩; have HB := Lib.hid hb; clear hb U)
        all_goals go_ret2
        all_goals exact io_mk (by first | exact hv.symm | (rw [hmin]; exact hv.symm)) (.inr (.inl rfl)) HB.out
      · have hv : pi b (43 :: r) = z := by rw [hz, HP.out]; show (if 9223372036854775808 ≤ u then _ else _) = _; rw [if_neg (by omega)]
        have hci : z < 9223372036854775808 := by omega
        clear HP hu hz
        clear U0 hL hE
        go_enter Tryd.func36, Tryd.ntmps36
        go_wp2_with (go_at_call 43; refine U.out.mono ?_; rintro e w1 ⟨rfl, hb⟩; have HB := Lib.hid hb; clear hb U)
        all_goals go_ret2
        all_goals exact io_mk (by first | exact hv.symm | (rw [hmin]; exact hv.symm)) (.inl rfl) HB.out
  · by_cases h45 : c0 = 45
    · subst h45
      rw [hL]
      have U0 := Lib.hid (uint43 b h2 h36 (s.extract 1 s.size) hts w)
      rw [htl] at U0
      have HP := Lib.hid (pi_minus b r)
      cases hE : puE b (r) with
      | bad =>
        rw [hE] at U0 HP
        have U : Hid (Calls Tryd.prog 43 #[.string (s.extract 1 s.size), .int .i64 b, .int .i64 64] w fun e w' => e = .returned (.tuple #[.int .u64 0, .iface 82 (.int .i64 2)]) ∧ Below w.heap.size w w') := U0
        clear U0 hL hE
        go_enter Tryd.func36, Tryd.ntmps36
        go_wp2_with (go_at_call 43; refine U.out.mono ?_; rintro e w1 ⟨rfl, hb⟩; have HB := Lib.hid hb; clear hb U)
        all_goals go_ret2
        all_goals exact io_mk (by first | exact HP.out.symm | (rw [hmin]; exact HP.out.symm)) (.inr (.inr rfl)) HB.out
      | over =>
        rw [hE] at U0 HP
        have U : Hid (Calls Tryd.prog 43 #[.string (s.extract 1 s.size), .int .i64 b, .int .i64 64] w fun e w' => e = .returned (.tuple #[.int .u64 18446744073709551615, .iface 82 (.int .i64 1)]) ∧ Below w.heap.size w w') := U0
        clear U0 hL hE
        go_enter Tryd.func36, Tryd.ntmps36
        go_wp2_with (go_at_call 43; refine U.out.mono ?_; rintro e w1 ⟨rfl, hb⟩; have HB := Lib.hid hb; clear hb U)
        all_goals go_ret2
        all_goals exact io_mk (by first | exact HP.out.symm | (rw [hmin]; exact HP.out.symm)) (.inr (.inl rfl)) HB.out
      | ok u =>
        have hu := puE_lt b _ u hE
        rw [hE] at U0 HP
        have U : Hid (Calls Tryd.prog 43 #[.string (s.extract 1 s.size), .int .i64 b, .int .i64 64] w fun e w' => e = .returned (.tuple #[.int .u64 u, .nilIface]) ∧ Below w.heap.size w w') := U0
        obtain ⟨z, hz⟩ : ∃ z : Int, z = (u : Int) := ⟨_, rfl⟩
        rw [← hz] at U
        have hui : z < 18446744073709551616 := by omega
        have hz0 : 0 ≤ z := by omega
        by_cases hc : (9223372036854775808 : Int) < z
        · have hv : pi b (45 :: r) = -9223372036854775808 := by rw [HP.out]; show (if 9223372036854775808 < u then _ else _) = _; rw [if_pos (by omega)]
          clear HP hu
          clear U0 hL hE
          go_enter Tryd.func36, Tryd.ntmps36
          go_wp2_with (go_at_call 43; refine U.out.mono ?_; rintro e w1 ⟨rfl, hb⟩; have HB := Lib.hid hb; clear hb U)
          all_goals go_ret2
          all_goals exact io_mk (by first | exact hv.symm | (rw [hmin]; exact hv.symm)) (.inr (.inl rfl)) HB.out
        · have hv : pi b (45 :: r) = -z := by rw [hz, HP.out]; show (if 9223372036854775808 < u then _ else _) = _; rw [if_neg (by omega)]
          have hci : z ≤ 9223372036854775808 := by omega
          clear HP hu
          by_cases he : z = 9223372036854775808
          · clear hz
            subst he
            clear U0 hL hE
            go_enter Tryd.func36, Tryd.ntmps36
            go_wp2_with (go_at_call 43; refine U.out.mono ?_; rintro e w1 ⟨rfl, hb⟩; have HB := Lib.hid hb; clear hb U)
            all_goals go_ret2
            all_goals exact io_mk (by first | exact hv.symm | (rw [hmin]; exact hv.symm)) (.inl rfl) HB.out
          · have hlt : z < 9223372036854775808 := by omega
            clear hz
            clear U0 hL hE
            go_enter Tryd.func36, Tryd.ntmps36
            go_wp2_with (go_at_call 43; refine U.out.mono ?_; rintro e w1 ⟨rfl, hb⟩; have HB := Lib.hid hb; clear hb U)
            all_goals go_ret2
            all_goals exact io_mk (by first | exact hv.symm | (rw [hmin]; exact hv.symm)) (.inl rfl) HB.out
    · have n43 := h43
      have n45 := h45
      have i43 : ¬ ((c0.toNat : Nat) : Int) = 43 := fun h => h43 (Lib.byte_eq_of_toNat h)
      have i45 : ¬ ((c0.toNat : Nat) : Int) = 45 := fun h => h45 (Lib.byte_eq_of_toNat h)
      rw [hL]
      have U0 := Lib.hid (uint43 b h2 h36 (s) hmax w)
      rw [hL] at U0
      have HP := Lib.hid (pi_none b c0 r n43 n45)
      cases hE : puE b (c0 :: r) with
      | bad =>
        rw [hE] at U0 HP
        have U : Hid (Calls Tryd.prog 43 #[.string (s), .int .i64 b, .int .i64 64] w fun e w' => e = .returned (.tuple #[.int .u64 0, .iface 82 (.int .i64 2)]) ∧ Below w.heap.size w w') := U0
        clear U0 hL hE
        go_enter Tryd.func36, Tryd.ntmps36
        go_wp2_with (go_at_call 43; refine U.out.mono ?_; rintro e w1 ⟨rfl, hb⟩; have HB := Lib.hid hb; clear hb U)
        all_goals go_ret2
        all_goals exact io_mk (by first | exact HP.out.symm | (rw [hmin]; exact HP.out.symm)) (.inr (.inr rfl)) HB.out
      | over =>
        rw [hE] at U0 HP
        have U : Hid (Calls Tryd.prog 43 #[.string (s), .int .i64 b, .int .i64 64] w fun e w' => e = .returned (.tuple #[.int .u64 18446744073709551615, .iface 82 (.int .i64 1)]) ∧ Below w.heap.size w w') := U0
        clear U0 hL hE
        go_enter Tryd.func36, Tryd.ntmps36
        go_wp2_with (go_at_call 43; refine U.out.mono ?_; rintro e w1 ⟨rfl, hb⟩; have HB := Lib.hid hb; clear hb U)
        all_goals go_ret2
        all_goals exact io_mk (by first | exact HP.out.symm | (rw [hmin]; exact HP.out.symm)) (.inr (.inl rfl)) HB.out
      | ok u =>
        have hu := puE_lt b _ u hE
        rw [hE] at U0 HP
        have U : Hid (Calls Tryd.prog 43 #[.string (s), .int .i64 b, .int .i64 64] w fun e w' => e = .returned (.tuple #[.int .u64 u, .nilIface]) ∧ Below w.heap.size w w') := U0
        obtain ⟨z, hz⟩ : ∃ z : Int, z = (u : Int) := ⟨_, rfl⟩
        rw [← hz] at U
        have hui : z < 18446744073709551616 := by omega
        have hz0 : 0 ≤ z := by omega
        by_cases hc : (9223372036854775808 : Int) ≤ z
        · have hv : pi b (c0 :: r) = 9223372036854775807 := by rw [HP.out]; show (if 9223372036854775808 ≤ u then _ else _) = _; rw [if_pos (by omega)]
          clear HP hu hz
          clear U0 hL hE
          go_enter Tryd.func36, Tryd.ntmps36
          go_wp2_with (go_at_call 43; refine U.out.mono ?_; rintro e w1 ⟨rfl, hb⟩; have HB := Lib.hid hb; clear hb U)
          all_goals go_ret2
          all_goals exact io_mk (by first | exact hv.symm | (rw [hmin]; exact hv.symm)) (.inr (.inl rfl)) HB.out
        · have hv : pi b (c0 :: r) = z := by rw [hz, HP.out]; show (if 9223372036854775808 ≤ u then _ else _) = _; rw [if_neg (by omega)]
          have hci : z < 9223372036854775808 := by omega
          clear HP hu hz
          clear U0 hL hE
          go_enter Tryd.func36, Tryd.ntmps36
          go_wp2_with (go_at_call 43; refine U.out.mono ?_; rintro e w1 ⟨rfl, hb⟩; have HB := Lib.hid hb; clear hb U)
          all_goals go_ret2
          all_goals exact io_mk (by first | exact hv.symm | (rw [hmin]; exact hv.symm)) (.inl rfl) HB.out

/-- the two error variables of strconv hold errors -/
structure ErrT (w : World) : Prop where
  syn : ∃ te pe, w.cell? ⟨3, 0, none⟩ = some (.iface te pe)
  rng : ∃ te pe, w.cell? ⟨4, 0, none⟩ = some (.iface te pe)
theorem ErrT.below {w w' : World} (h : ErrT w) (hb : Below w.heap.size w w') : ErrT w' := by
  obtain ⟨t1, p1, h1⟩ := h.syn
  obtain ⟨t2, p2, h2⟩ := h.rng
  exact ⟨⟨t1, p1, (hb.cell (p := ⟨3, 0, none⟩) (Lib.lt_of_cell h1)).trans h1⟩, ⟨t2, p2, (hb.cell (p := ⟨4, 0, none⟩) (Lib.lt_of_cell h2)).trans h2⟩⟩
/-- what strconv.ParseInt hands back: the number, whatever the error -/
def NumOut (n : Int) (w : World) (e : Ending) (w' : World) : Prop := (∃ er, e = .returned (.tuple #[.int .i64 n, er])) ∧ Below w.heap.size w w'
theorem no_mk {n : Int} {er : Value} {w w' : World} (hb : Below w.heap.size w w') : NumOut n w (.returned (.tuple #[.int .i64 n, er])) w' := ⟨⟨er, rfl⟩, hb⟩

set_option maxHeartbeats 4000000 in
set_option maxRecDepth 100000 in
theorem parse25 (b : Nat) (h2 : 2 ≤ b) (h36 : b ≤ 36) (s : ByteArray) (hmax : s.size ≤ 1073741824) (w : World) (hE : ErrT w) :
    Calls Tryd.prog 25 #[.string s, .int .i64 b, .int .i64 64] w (NumOut (pi b s.data.toList) w) := by
  have I := Lib.hid (int36 b h2 h36 s hmax w)
  have HE := Lib.hid hE
  obtain ⟨n, hn⟩ : ∃ n, n = pi b s.data.toList := ⟨_, rfl⟩
  unfold IntOut at I
  rw [← hn] at I ⊢
  clear hn hE
  have mixed : Tryd.prog.follows .mixedOrders = true := by kernel_rfl
  go_enter Tryd.func25, Tryd.ntmps25
  go_wp2_with (go_at_call 36; refine I.out.mono ?_)
  rintro e w1 ⟨⟨er, rfl, her⟩, hb⟩
  have HB := Lib.hid hb
  have E1 := Lib.hid (HE.out.below hb)
  clear hb I
  rcases her with rfl | rfl | rfl
  · go_wp2
    go_ret2
    exact no_mk HB.out
  · obtain ⟨te, pe, hv⟩ := E1.out.rng
    have T := Lib.hid (Any.strconv_toError_range { Tryd.lays245 with } ⟨#[80, 97, 114, 115, 101, 73, 110, 116]⟩ s (b : Int) 64 (.iface te pe) w1 (by omega) hv (.inr ⟨te, pe, rfl⟩))
    go_wp2_with (go_at_call 37; refine T.out.mono ?_; rintro e w2 ⟨N, rfl, _, _, hb2⟩; have HB2 := Lib.hid hb2; clear hb2)
    go_ret2
    exact no_mk (HB.out.trans (HB2.out.mono HB.out.size))
  · obtain ⟨te, pe, hv⟩ := E1.out.syn
    have T := Lib.hid (Any.strconv_toError_syntax { Tryd.lays245 with } ⟨#[80, 97, 114, 115, 101, 73, 110, 116]⟩ s (b : Int) 64 (.iface te pe) w1 (by omega) hv (.inr ⟨te, pe, rfl⟩))
    go_wp2_with (go_at_call 37; refine T.out.mono ?_; rintro e w2 ⟨N, rfl, _, _, hb2⟩; have HB2 := Lib.hid hb2; clear hb2)
    go_ret2
    exact no_mk (HB.out.trans (HB2.out.mono HB.out.size))
end Go.Proofs.YtopaaaacbegmnaaDoor
