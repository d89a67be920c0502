/-
  The walk of FnLevelScriptInvariant. Conditions: those in each theorem.
-/
import Derived.Test.YtopaaaacbegmnaaLv6
namespace Go.Proofs.Ytopaaaacbegmnaa
set_option linter.unusedVariables false
open Go.Shelf Go.RowKit Go.Lib Go.Sort

/-- a slice of bytes -/
def BytesAt (w : World) (a : Option Addr) (xs : List Int) : Prop := xs ≠ [] → ∃ b off, a = some ⟨b, off, none⟩ ∧ b < w.heap.size ∧ ∀ j, j < xs.length → w.cell? ⟨b, off + j, none⟩ = some (.int .u8 (xs.getD j 0)) ∧ 0 ≤ xs.getD j 0 ∧ xs.getD j 0 < 256
/-- the printer that the law makes -/
theorem LP.made {w1 : World} {B : Nat} {v : Value} {bs : List Bool} {M : Array Value} (lev last : Nat) (hown : w1.ownsRow B 4 1 v bs.length (bs.map Value.bool)) (hB : B ≤ w1.heap.size) (hM : M.size = 4096) (hl : bs.length ≤ 1073741824) :
    LP B (w1.heap.size + 2) (w1.heap.size + 1) w1.heap.size last lev bs v (((w1.alloc (.cells M 5)).alloc (.cells (bcells w1.heap.size 0) 57)).alloc (.cells (pcells (w1.heap.size + 1) last lev v) 46)) ∧ Below B w1 (((w1.alloc (.cells M 5)).alloc (.cells (bcells w1.heap.size 0) 57)).alloc (.cells (pcells (w1.heap.size + 1) last lev v) 46)) := by
  have e1 : (w1.alloc (.cells M 5)).heap.size = w1.heap.size + 1 := by simp
  have e2 : ((w1.alloc (.cells M 5)).alloc (.cells (bcells w1.heap.size 0) 57)).heap.size = w1.heap.size + 2 := by simp
  refine ⟨⟨?_, ((hown.alloc _).alloc _).alloc _, ⟨0, ?_, ⟨M, ?_, hM⟩, by omega, by omega, by omega, by omega⟩, by omega, hl⟩, (((Below.refl B w1).alloc hB _).alloc (by omega) _).alloc (by omega) _⟩
  · rw [← e2]; exact heap_alloc_new _ _
  · rw [Below.heap_alloc _ _ _ (by omega), ← e1]; exact heap_alloc_new _ _
  · rw [Below.heap_alloc _ _ _ (by omega), Below.heap_alloc _ _ _ (by omega)]; exact heap_alloc_new _ _

/-- the printer stays where nothing that was there turns -/
theorem LP.near {B p k r last lev : Nat} {ls : List Bool} {v : Value} {w w' : World} (h : LP B p k r last lev ls v w) (hs : ∀ i, i < w.heap.size → w'.heap[i]? = w.heap[i]?) : LP B p k r last lev ls v w' := by
  obtain ⟨n, hn⟩ := h.bd
  obtain ⟨rc, h1, h2⟩ := hn.row
  refine ⟨(hs p (Lib.lt_of_heap h.pr)).trans h.pr, own_kept h.own fun g hg => hs g (h.own.lt g hg).2, ⟨n, hn.kept fun j hj => ?_⟩, h.lp, h.hl⟩
  rcases hj with rfl | rfl
  · exact hs _ (Lib.lt_of_heap hn.wr)
  · exact hs _ (Lib.lt_of_heap h1)
theorem LP.grown {B p k r last lev : Nat} {ls : List Bool} {v : Value} {w : World} (h : LP B p k r last lev ls v w) (n : Nat) (os : Array Obj) : LP B p k r last lev ls v (grow (w.drewN n) os) :=
  h.near fun i hi => by
    show (w.heap ++ os)[i]? = _
    rw [Array.getElem?_append_left hi]
theorem below_grown {B : Nat} {w w' : World} (h : Below B w w') (n : Nat) (os : Array Obj) (hB : B ≤ w'.heap.size) : Below B w (grow (w'.drewN n) os) :=
  ⟨h.os, h.tape, h.output, by
    show w.heap.size ≤ (w'.heap ++ os).size
    have := h.size
    rw [Array.size_append]; omega, fun i hi => by
    show (w'.heap ++ os)[i]? = _
    rw [Array.getElem?_append_left (by omega)]; exact h.block i hi⟩
/-- a call that turns nothing, in a grown world -/
theorem still_grown {f : FuncId} {args : Array Value} {w : World} {v : Value} (h : Calls Try.prog f args w fun e w' => e = .returned v ∧ w' = w) : Calls Try.prog f args w fun e w' => e = .returned v ∧ ∃ q os', w' = grow (w.drewN q) os' :=
  h.mono fun e w' ⟨he, hw⟩ => ⟨he, 0, #[], by rw [hw, grow_empty]; rfl⟩

/-- the loop's state -/
structure St3 (B p k r fl lev0 n0 i depth : Nat) (w wr : World) : Prop where
  st : ∃ last lev ls v, LP B p k r last lev ls v wr ∧ lev = fl + trues ls ∧ lev ≤ lev0 + i ∧ ls.length = depth ∧ depth ≤ n0 + i
  bel : Below B w wr

set_option maxRecDepth 20000 in
set_option maxHeartbeats 4000000 in
theorem law3 (lev last : Nat) (a0 : Option Addr) (c0 : Nat) (bs : List Bool) (a1 : Option Addr) (c1 : Nat) (xs : List Int) (w : World) (hl : lev < 18446744073709551616) (hla : last < 18446744073709551616) (hb : BoolsAt w a0 bs) (hb0 : a0 = none → bs = []) (hx : BytesAt w a1 xs) (hn : bs.length ≤ 9223372036854775807) (hm : xs.length ≤ 9223372036854775807) :
    Calls Try.prog 3 #[.int .u64 lev, .int .u64 last, .slice a0 bs.length c0, .slice a1 xs.length c1] w fun e w' => e = .returned (.bool true) ∧ Below w.heap.size w w' := by
  have B4 := Lib.hid (bytes4 lev last a0 bs.length c0 a1 xs.length c1 w (by omega) (by omega))
  have HB := Lib.hid hb
  have HB0 := Lib.hid hb0
  have HX := Lib.hid hx
  clear hb hb0 hx
  by_cases g1 : (65536 : Int) < (bs.length : Int)
  · go_enter Try.func3, Try.ntmps3
    go_wp2_with (go_at_call 4; refine B4.out.mono ?_; rintro e w' ⟨⟨b, rfl⟩, hw'⟩; have hw' := hw'.symm; subst hw')
    all_goals (go_ret; exact ⟨rfl, Below.refl _ _⟩)
  by_cases g2 : (4096 : Int) < (xs.length : Int)
  · go_enter Try.func3, Try.ntmps3
    go_wp2_with (go_at_call 4; refine B4.out.mono ?_; rintro e w' ⟨⟨b, rfl⟩, hw'⟩; have hw' := hw'.symm; subst hw')
    all_goals (go_ret; exact ⟨rfl, Below.refl _ _⟩)
  by_cases g3 : (65536 : Int) < (lev : Int)
  · go_enter Try.func3, Try.ntmps3
    go_wp2_with (go_at_call 4; refine B4.out.mono ?_; rintro e w' ⟨⟨b, rfl⟩, hw'⟩; have hw' := hw'.symm; subst hw')
    all_goals (go_ret; exact ⟨rfl, Below.refl _ _⟩)
  have T5 := Lib.hid (trues5 a0 c0 bs w HB.out (by omega))
  by_cases g4 : (lev : Int) < (trues bs : Int)
  · go_enter Try.func3, Try.ntmps3
    go_wp2_with (first | (go_at_call 4; refine B4.out.mono ?_; rintro e w' ⟨⟨b, rfl⟩, hw'⟩; have hw' := hw'.symm; subst hw') | (go_at_call 5; refine T5.out.mono ?_; rintro e w' ⟨rfl, hw'⟩; have hw' := hw'.symm; subst hw'))
    all_goals (go_ret; exact ⟨rfl, Below.refl _ _⟩)
  obtain ⟨fl, hfl⟩ : ∃ fl, lev = fl + trues bs := ⟨lev - trues bs, by omega⟩
  have C7 := Lib.hid (clone7 a0 c0 bs w HB.out (by omega) HB0.out)
  have htl := trues_le bs
  obtain ⟨t0, ht0⟩ : ∃ t0, t0 = trues bs := ⟨_, rfl⟩
  rw [← ht0] at T5 g4 hfl htl
  have hT0 := Lib.hid ht0
  have hsub : (lev : Int) - (t0 : Int) = (fl : Int) := by omega
  have HFL := Lib.hid hfl
  clear ht0 HB HB0 hfl
  go_enter Try.func3, Try.ntmps3
  go_wp2_with (first | (go_at_call 4; refine B4.out.mono ?_; rintro e w' ⟨⟨b, rfl⟩, hw'⟩; have hw' := hw'.symm; subst hw') | (go_at_call 5; refine T5.out.mono ?_; rintro e w' ⟨rfl, hw'⟩; have hw' := hw'.symm; subst hw') | (go_at_call 7; refine C7.out.mono ?_; rintro e w1 ⟨v, rfl, hv, hB1⟩; obtain ⟨av, cv, rfl, hbv⟩ := BoolsAt.of_own hv; have HV := Lib.hid hv; have HB1 := Lib.hid hB1; clear hv hB1 hbv C7) | (go_at_call 6; refine (new6 lev last _ _ _ _ hl hla).mono ?_; rintro e w2 ⟨M, hM, rfl, hw2⟩; have HM := Lib.hid (And.intro hM hw2); clear hM hw2))
  all_goals (try (go_ret; exact ⟨rfl, Below.refl _ _⟩))
  obtain ⟨hm1, hm2⟩ := LP.made (w1 := w1) (M := M) lev last HV.out HB1.out.size HM.out.1 (by omega)
  rw [← HM.out.2] at hm1 hm2
  obtain ⟨p, hp⟩ : ∃ p, p = w1.heap.size + 2 := ⟨_, rfl⟩
  obtain ⟨k, hk⟩ : ∃ k, k = w1.heap.size + 1 := ⟨_, rfl⟩
  obtain ⟨r, hr⟩ : ∃ r, r = w1.heap.size := ⟨_, rfl⟩
  rw [← hp, ← hk, ← hr] at hm1
  rw [← hp]
  have S0 : Hid (St3 w.heap.size p k r fl lev bs.length 0 bs.length w w2) := Lib.hid ⟨⟨last, lev, bs, _, hm1, by rw [← hT0.out]; exact HFL.out, by omega, rfl, by omega⟩, HB1.out.trans hm2⟩
  clear hm1 hm2 HM HV HB1 hp hk hr T5 B4 hT0 HFL hsub
  have hlev : (lev : Int) ≤ 65536 := by omega
  go_loopg [12, 13] (xs.length) (fun g v12 v13 wr => ∃ i depth : Nat, v12 = .int .i64 depth ∧ v13 = .int .i64 i ∧ (i : Int) ≤ (xs.length : Int) ∧ xs.length - i ≤ g ∧ (depth : Int) ≤ 65536 + (i : Int) ∧ Hid (St3 w.heap.size p k r fl lev bs.length i depth w wr))
  case atStart => exact ⟨0, bs.length, rfl, rfl, by omega, by omega, by omega, S0⟩
  case round =>
    clear S0
    obtain ⟨i, depth, rfl, rfl, hi, hg, hdi, S1⟩ := hrel
    obtain ⟨last1, lev1, ls, v, hP, hf, hle, hd, hdn⟩ := S1.out.st
    have HBW := Lib.hid S1.out.bel
    have hfl1 : (fl : Int) ≤ (lev1 : Int) := by omega
    have hlv1 : (lev1 : Int) ≤ 65536 + (i : Int) := by omega
    have HF := Lib.hid hf
    have HD := Lib.hid hd
    have HLE := Lib.hid hle
    have HDN := Lib.hid hdn
    by_cases hlt : (i : Int) < (xs.length : Int)
    · obtain ⟨b1, off, hab, hbw, hcell⟩ := HX.out (by rintro rfl; simp at hlt; omega)
      obtain ⟨hc1, hc2, hc3⟩ := hcell i (by omega)
      subst hab
      have hx := (HBW.out.cell (p := ⟨b1, off + i, none⟩) hbw).trans hc1
      clear hcell hc1
      obtain ⟨x, hxx⟩ : ∃ x, x = xs.getD i 0 := ⟨_, rfl⟩
      rw [← hxx] at hx hc2 hc3
      clear hxx
      have hmod : x.tmod 3 = x % 3 := Int.tmod_eq_emod_of_nonneg hc2
      have hm0 : 0 ≤ x % 3 := by omega
      have hm3 : x % 3 < 3 := by omega
      obtain ⟨m, hm⟩ : ∃ m, m = x % 3 := ⟨_, rfl⟩
      rw [← hm] at hmod hm0 hm3
      have hm' := hm.symm
      clear hm
      by_cases o0 : m = 0
      · have D8 := Lib.hid (door8 _ p k r last1 lev1 ls v wr hP (by omega) (by omega))
        have hs1 : ls.length + 1 = depth + 1 := by omega
        rw [hs1] at D8
        clear hP hf hd hle hdn hs1
        subst o0
        go_wp2_with (first | (go_at_call 8; refine D8.out.mono ?_; rintro e w3 ⟨rfl, lev2, ls2, v2, hP2, hl2, ht2, hle2, hb2⟩; obtain ⟨av2, cv2, rfl, _⟩ := BoolsAt.of_own hP2.own; have hf2 : lev2 = fl + trues ls2 := (by have h := HF.out; omega); have hfl2 : (fl : Int) ≤ (lev2 : Int) := (by omega); have S2 : Hid (St3 w.heap.size p k r fl lev bs.length (i + 1) (depth + 1) w w3) := Lib.hid ⟨⟨last1, lev2, ls2, _, hP2, hf2, (by have h := HLE.out; omega), hl2, (by have h := HDN.out; omega)⟩, HBW.out.trans hb2⟩; rw [hl2] at hP2; have HP := Lib.hid hP2; clear hP2 hl2 ht2 hle2 hb2 hf2; clear D8) | (go_at_call 13; refine (incs13 _ _ _ _ _ _ _ _ _ HP.out).mono ?_; rintro e w4 ⟨rfl, h4⟩; have h4 := h4.symm; subst h4) | (go_at_call 12; refine (lev12 _ _ _ _ _ _ _ _ _ HP.out).mono ?_; rintro e w5 ⟨rfl, h5⟩; have h5 := h5.symm; subst h5))
        go_roundg (xs.length - (i + 1))
        case measure => omega
        case rel => exact ⟨i + 1, depth + 1, by go_num, by go_num, by omega, Nat.le_refl _, by omega, S2⟩
      · by_cases o1 : m = 1
        · subst o1
          by_cases od : depth = 0
          · subst od
            have S2 : Hid (St3 w.heap.size p k r fl lev bs.length (i + 1) 0 w wr) := Lib.hid ⟨⟨last1, lev1, ls, v, hP, hf, by omega, hd, by omega⟩, HBW.out⟩
            clear hP hf hd hle hdn
            go_wp2
            go_roundg (xs.length - (i + 1))
            case measure => omega
            case rel => exact ⟨i + 1, 0, rfl, by go_num, by omega, Nat.le_refl _, by omega, S2⟩
          · obtain ⟨d1, rfl⟩ : ∃ d1, depth = d1 + 1 := ⟨depth - 1, by omega⟩
            have hne : ls ≠ [] := by rintro rfl; simp at hd
            have D9 := Lib.hid (door9 _ p k r last1 lev1 ls v wr hP (by omega) (by omega) _ _ (List.dropLast_concat_getLast hne).symm)
            have hs1 : ls.dropLast.length = d1 := by rw [List.length_dropLast]; omega
            rw [hs1] at D9
            have hdi1 : ((d1 : Int) + 1 == 0) = false := by rw [beq_eq_false_iff_ne]; omega
            clear hP hf hd hle hdn hs1 hne
            go_wp2_with (first | (go_at_call 9; refine D9.out.mono ?_; rintro e w3 ⟨rfl, lev2, ls2, v2, hP2, hl2, ht2, hle2, hb2⟩; obtain ⟨av2, cv2, rfl, _⟩ := BoolsAt.of_own hP2.own; have hf2 : lev2 = fl + trues ls2 := (by have h := HF.out; omega); have hfl2 : (fl : Int) ≤ (lev2 : Int) := (by omega); have S2 : Hid (St3 w.heap.size p k r fl lev bs.length (i + 1) (d1) w w3) := Lib.hid ⟨⟨last1, lev2, ls2, _, hP2, hf2, (by have h := HLE.out; omega), hl2, (by have h := HDN.out; omega)⟩, HBW.out.trans hb2⟩; rw [hl2] at hP2; have HP := Lib.hid hP2; clear hP2 hl2 ht2 hle2 hb2 hf2; clear D9) | (go_at_call 13; refine (incs13 _ _ _ _ _ _ _ _ _ HP.out).mono ?_; rintro e w4 ⟨rfl, h4⟩; have h4 := h4.symm; subst h4) | (go_at_call 12; refine (lev12 _ _ _ _ _ _ _ _ _ HP.out).mono ?_; rintro e w5 ⟨rfl, h5⟩; have h5 := h5.symm; subst h5))
            go_roundg (xs.length - (i + 1))
            case measure => omega
            case rel => exact ⟨i + 1, d1, by go_num, by go_num, by omega, Nat.le_refl _, by omega, S2⟩
        · have o2 : m = 2 := by omega
          subst o2
          have D10 := Lib.hid (door10 _ p k r last1 lev1 ls v wr hP (by omega))
          obtain ⟨av2, cv2, rfl, _⟩ := BoolsAt.of_own hP.own
          clear hP hle hdn
          go_wp2_with (first | (go_at_call 10; refine D10.out.mono ?_; rintro e w3 ⟨rfl, hP2, hb2⟩; have S3 : Hid (St3 w.heap.size p k r fl lev bs.length (i + 1) depth w w3) := Lib.hid ⟨⟨lev1, lev1, ls, _, hP2, HF.out, (by have h := HLE.out; omega), HD.out, (by have h := HDN.out; omega)⟩, HBW.out.trans hb2⟩; rw [hd] at hP2; have HP := Lib.hid hP2; clear hP2 hb2 D10 hf) | (go_at_call 11; refine (last11 _ _ _ _ _ _ _ _ _ HP.out).mono ?_; rintro e w6 ⟨rfl, h6⟩; have h6 := h6.symm; subst h6) | (go_at_call 13; refine (incs13 _ _ _ _ _ _ _ _ _ HP.out).mono ?_; rintro e w4 ⟨rfl, h4⟩; have h4 := h4.symm; subst h4) | (go_at_call 12; refine (lev12 _ _ _ _ _ _ _ _ _ HP.out).mono ?_; rintro e w5 ⟨rfl, h5⟩; have h5 := h5.symm; subst h5))
          go_roundg (xs.length - (i + 1))
          case measure => omega
          case rel => exact ⟨i + 1, depth, rfl, by go_num, by omega, Nat.le_refl _, by omega, S3⟩
    · have hie : i = xs.length := by omega
      obtain ⟨av2, cv2, rfl, hba⟩ := BoolsAt.of_own hP.own
      have L5 := Lib.hid (trues5 av2 cv2 ls wr hba hP.hl)
      have htl2 := trues_le ls
      have hll := hP.hl
      obtain ⟨t2, ht2⟩ : ∃ t2, t2 = trues ls := ⟨_, rfl⟩
      rw [← ht2] at L5 hf htl2
      have hsum : (fl : Int) + (t2 : Int) = (lev1 : Int) := by omega
      have HP := Lib.hid hP
      clear hP hf hd hle hdn ht2 HF HD HLE HDN S1 hba
      go_wp2_with (first | (go_at_call 13; refine (incs13 _ _ _ _ _ _ _ _ _ HP.out).mono ?_; rintro e w4 ⟨rfl, h4⟩; have h4 := h4.symm; subst h4) | (go_at_call 12; refine (lev12 _ _ _ _ _ _ _ _ _ HP.out).mono ?_; rintro e w5 ⟨rfl, h5⟩; have h5 := h5.symm; subst h5) | (go_at_call 5; refine L5.out.mono ?_; rintro e w8 ⟨rfl, h8⟩; have h8 := h8.symm; subst h8))
      go_ret
      exact ⟨by first | rfl | simp, HBW.out⟩
end Go.Proofs.Ytopaaaacbegmnaa
