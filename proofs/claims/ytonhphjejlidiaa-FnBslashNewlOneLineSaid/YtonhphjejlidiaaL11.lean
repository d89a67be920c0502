/-
  The walk of FnBslashNewlOneLine. Conditions: those in each theorem.
-/
import Derived.Test.YtonhphjejlidiaaN53
import Derived.Test.YtonhphjejlidiaaN50
namespace Go.Proofs.Ytonhphjejlidiaa
set_option linter.unusedVariables false
open Go.Shelf Go.RowKit Go.Lib

theorem indL_ten (f : PF) : ∀ c ∈ indL f, ¬ c = 10 := by
  intro c hc
  unfold indL at hc
  split at hc
  · cases hc
  · split at hc
    · cases hc
    · split at hc
      · simp only [List.mem_append, List.mem_singleton, List.mem_replicate] at hc
        rcases hc with (h | h) | h
        · rw [h]; decide
        · rw [h.2]; decide
        · rw [h]; decide
      · rw [List.mem_replicate] at hc
        rw [hc.2]; decide

/-- the text behind the prefix: K spaces, a backslash, a newline, no newline more -/
structure Rest (m : ByteArray) (K : Nat) : Prop where
  size : K + 2 ≤ m.size
  ten : ∀ (h : K + 1 < m.size), m[K + 1] = 10
  back : ∀ (h : K < m.size), m[K] = 92
  other : ∀ j (h : j < m.size), ¬ j = K + 1 → ¬ m[j] = 10
  blank : ∀ j (h : j < m.size), j < K → m[j] = 32
theorem rest_of (m : ByteArray) (K : Nat) (I : List UInt8) (hI : ∀ c ∈ I, ¬ c = 10) (hm : m.data.toList = List.replicate K 32 ++ [92, 10] ++ I) : Rest m K := by
  have hl := congrArg List.length hm
  have e0 : m.data.toList.length = m.size := by simp
  simp only [List.length_append, List.length_replicate, List.length_cons, List.length_nil] at hl
  have g : ∀ j (h : j < m.size), (List.replicate K 32 ++ [92, 10] ++ I)[j]? = some m[j] := fun j h => by rw [← hm]; exact Lib.data_getElem? m j h
  refine ⟨by omega, fun h => ?_, fun h => ?_, fun j h hj => ?_, fun j h hj => ?_⟩
  · have h1 := g (K + 1) h
    rw [List.append_assoc, List.getElem?_append_right (by simp)] at h1
    simp at h1
    exact h1.symm
  · have h1 := g K h
    rw [List.append_assoc, List.getElem?_append_right (by simp)] at h1
    simp at h1
    exact h1.symm
  · intro hc
    have h1 := g j h
    rw [hc] at h1
    by_cases a : j < K
    · rw [List.append_assoc, List.getElem?_append_left (by simpa using a), List.getElem?_replicate_of_lt a] at h1
      exact absurd (Option.some.inj h1) (by decide)
    · by_cases b : j = K
      · subst b
        rw [List.append_assoc, List.getElem?_append_right (by simp)] at h1
        simp at h1
      · rw [List.getElem?_append_right (by simp; omega)] at h1
        exact hI 10 (List.mem_of_getElem? h1) rfl
  · have h1 := g j h
    rw [List.append_assoc, List.getElem?_append_left (by simpa using hj), List.getElem?_replicate_of_lt hj] at h1
    exact (Option.some.inj h1).symm

/-- the text, its prefix, what lies behind -/
theorem bsl_facts (t o : ByteArray) (R : List UInt8) (ho : o.data.toList = [] ++ t.data.toList ++ R) : o.size = t.size + R.length ∧ ((o.extract 0 t.size).toList == t.toList) = true ∧ (o.extract t.size o.size).data.toList = R := by
  have hl := congrArg List.length ho
  have e0 : o.data.toList.length = o.size := by simp
  have e1 : t.data.toList.length = t.size := by simp
  simp only [List.length_append, List.length_nil] at hl
  refine ⟨by omega, ?_, ?_⟩
  · rw [ByteArray.toList_eq, ByteArray.toList_eq, ByteArray.data_extract, Array.toList_extract, List.extract_eq_take_drop, ho]
    simp [e1]
  · rw [ByteArray.data_extract, Array.toList_extract, List.extract_eq_take_drop, ho, List.nil_append, List.drop_left' e1]
    exact List.take_of_length_le (by omega)

/-- the newlines counted so far, and the last one's place -/
def AtNl (K j : Nat) (n a : Value) : Prop := (j ≤ K + 1 ∧ n = .int .i64 0 ∧ a = .int .i64 (-1)) ∨ (K + 1 < j ∧ n = .int .i64 1 ∧ a = .int .i64 ((K + 1 : Nat) : Int))

theorem zz40d (mini kp : Bool) (ind lev ln ws : Nat) (t : ByteArray) (w : World) (L : List UInt8) (F : PF) (hL : L = [] ++ t.data.toList ++ bslL kp (cfgF mini false kp ind lev ln ws t)) (hF : F = indF kp (bslF kp (cfgF mini false kp ind lev ln ws t))) (hts : t.size ≤ 65536) (hws : ws ≤ 2) (hlev : lev ≤ 65536) (hind : ind ≤ 65536) (hmul : ind * lev ≤ 65536) (hln : ln ≤ 2147483648) :
    Calls Try.prog 40 #[.agg #[.bool mini, .bool false, .bool kp, .int .u64 ind, .int .u64 lev, .int .u64 ln, .int .u8 ws, .bool false, .bool false, .bool false, .string t]] w (ZSt w L F) := by
  subst hL hF
  exact zz40 mini kp ind lev ln ws t w hts hws hlev hind hmul hln

set_option maxRecDepth 20000 in
set_option maxHeartbeats 16000000 in
theorem law11' (mini kp : Bool) (ind lev ln ws : Nat) (t : ByteArray) (w : World) (hind : ind ≤ 18446744073709551615) (hlev : lev ≤ 18446744073709551615) (hln : ln ≤ 18446744073709551615) (hws : ws ≤ 255) :
    Calls Try.prog 11 #[.bool mini, .bool kp, .int .u64 ind, .int .u64 lev, .int .u64 ln, .int .u8 ws, .string t] w fun e w' => e = .returned (.bool true) ∧ Below w.heap.size w w' := by
  have hwi : (ws : Int) ≤ 255 := by omega
  have hii : (ind : Int) ≤ 18446744073709551615 := by omega
  have hli : (lev : Int) ≤ 18446744073709551615 := by omega
  have hni : (ln : Int) ≤ 18446744073709551615 := by omega
  by_cases c0 : (1048576 : Int) < (t.size : Int)
  · go_enter Try.func11, Try.ntmps11
    go_wp2_with (go_at_call 39; go_in)
    all_goals (go_ret; exact ⟨rfl, Below.refl _ _⟩)
  by_cases c1 : (65536 : Int) < (t.size : Int)
  · go_enter Try.func11, Try.ntmps11
    go_wp2_with (go_at_call 39; go_in)
    all_goals (go_ret; exact ⟨rfl, Below.refl _ _⟩)
  by_cases c2 : (65536 : Int) < (ind : Int)
  · go_enter Try.func11, Try.ntmps11
    go_wp2_with (go_at_call 39; go_in)
    all_goals (go_ret; exact ⟨rfl, Below.refl _ _⟩)
  by_cases c3 : (65536 : Int) < (lev : Int)
  · go_enter Try.func11, Try.ntmps11
    go_wp2_with (go_at_call 39; go_in)
    all_goals (go_ret; exact ⟨rfl, Below.refl _ _⟩)
  obtain ⟨M, hM⟩ : ∃ M, M = ind * lev := ⟨_, rfl⟩
  have hMi : (ind : Int) * (lev : Int) = (M : Int) := by rw [hM]; simp
  have hMb : M ≤ 65536 * 65536 := by rw [hM]; exact Nat.mul_le_mul (by omega) (by omega)
  have hmw : IntKind.u64.wrap ((ind : Int) * (lev : Int)) = (M : Int) := by rw [hMi]; exact IntWalk.u64_in _ (by omega)
  have HMW := Lib.hid hmw
  have HM := Lib.hid hM
  clear hMi hmw hM
  by_cases c4 : (65536 : Int) < (M : Int)
  · have hmw := HMW.out
    go_enter Try.func11, Try.ntmps11
    go_wp2_with (go_at_call 39; go_in)
    all_goals (go_ret; exact ⟨rfl, Below.refl _ _⟩)
  by_cases c5 : (2147483648 : Int) < (ln : Int)
  · have hmw := HMW.out
    go_enter Try.func11, Try.ntmps11
    go_wp2_with (go_at_call 39; go_in)
    all_goals (go_ret; exact ⟨rfl, Below.refl _ _⟩)
  by_cases c6 : (2 : Int) < (ws : Int)
  · have hmw := HMW.out
    go_enter Try.func11, Try.ntmps11
    go_wp2_with (go_at_call 39; go_in)
    all_goals (go_ret; exact ⟨rfl, Below.refl _ _⟩)
  have hts : t.size ≤ 65536 := by omega
  have hmul : ind * lev ≤ 65536 := by rw [← HM.out]; omega
  obtain ⟨f, hf⟩ : ∃ f, f = cfgF mini false kp ind lev ln ws t := ⟨_, rfl⟩
  have f4 := (cfgF_facts mini false kp ind lev ln ws t).2.2.2.1
  rw [← hf] at f4
  obtain ⟨L, hL⟩ : ∃ L, L = [] ++ t.data.toList ++ bslL kp f := ⟨_, rfl⟩
  obtain ⟨F, hF⟩ : ∃ F, F = indF kp (bslF kp f) := ⟨_, rfl⟩
  have hFl : (F.line : Int) = (ln : Int) + 1 := by rw [hF, indF_line, f4]; simp
  have Z5 := Lib.hid fun W => zz40d mini kp ind lev ln ws t W L F (by rw [hL, hf]) (by rw [hF, hf]) hts (by omega) (by omega) (by omega) hmul (by omega)
  obtain ⟨o, ho⟩ : ∃ o : ByteArray, o = ⟨L.toArray⟩ := ⟨_, rfl⟩
  have hol : o.data.toList = L := by rw [ho]
  obtain ⟨K, hK⟩ : ∃ K, K = padK f := ⟨_, rfl⟩
  have hK1 : K ≤ 1 := by rw [hK]; exact padK_le f
  rw [hL] at hol
  obtain ⟨o1, o2, o3⟩ := bsl_facts t o _ hol
  have hRl : (bslL kp f).length ≤ 70000 := by
    have h1 := indL_len (bslF kp f) (by rw [(bslF_facts kp f).1, hf, (cfgF_facts mini false kp ind lev ln ws t).2.2.2.2.1]; omega) (by rw [(bslF_facts kp f).1, (bslF_facts kp f).2.1, hf, (cfgF_facts mini false kp ind lev ln ws t).2.2.2.2.1, (cfgF_facts mini false kp ind lev ln ws t).2.1]; exact hmul)
    unfold bslL; rw [← hK]; simp; omega
  have PX := Lib.hid fun W => pfx36 o t W (by omega) (by omega) o2
  have RS := Lib.hid (rest_of (o.extract t.size o.size) K _ (indL_ten (bslF kp f)) (by rw [o3, hK]; rfl))
  have oi : (o.size : Int) ≤ 200000 := by omega
  have ot : (t.size : Int) ≤ (o.size : Int) := by omega
  have HO := Lib.hid ho
  have HFL := Lib.hid hFl
  have msz : (o.extract t.size o.size).size = (bslL kp f).length := by rw [← o3]; simp
  have mb : (o.extract t.size o.size).size ≤ 70000 := by omega
  have hni2 : (ln : Int) ≤ 2147483648 := by omega
  clear hL hF hol hK o1 o2 o3 hf f4 hFl hRl msz ho hmul HM hMb
  have hmw := HMW.out
  go_enter Try.func11, Try.ntmps11
  go_wp2_with (first | (go_at_call 39; go_in) | (go_at_call 40; refine (Z5.out _).mono ?_; rintro e w1 ⟨rfl, b1⟩; unfold outS; rw [← HO.out]; have B1 := Lib.hid b1; clear b1 Z5 hmw) | (go_at_call 36; refine (PX.out _).mono ?_; rintro e w2 ⟨rfl, rfl⟩))
  generalize hmid : o.extract t.size o.size = m at RS mb ⊢
  generalize hWW : World.alloc w1 _ = WW
  have hl1 : WW.cell? ⟨w1.heap.size, 1, none⟩ = some (.int .u64 ((ln : Int) + 1)) := by rw [← hWW, ← HFL.out]; exact (new_cell w1 _ 27 1 _ rfl).trans rfl
  have BW1 : Hid (Below w.heap.size w WW) := Lib.hid (by rw [← hWW]; exact (((Below.refl w.heap.size w).trans B1.out).alloc B1.out.size _))
  clear B1 hWW hmid PX HO
  have mi : (m.size : Int) ≤ 70000 := by omega
  have mk : ((K + 2 : Nat) : Int) ≤ (m.size : Int) := by have := RS.out.size; omega
  go_loopg [17, 18, 19] (m.size) (fun g v17 v18 v19 wr => ∃ j : Nat, v19 = .int .i64 j ∧ (j : Int) ≤ (m.size : Int) ∧ m.size - j ≤ g ∧ wr = WW ∧ Hid (AtNl K j v17 v18))
  case atStart => exact ⟨0, rfl, by omega, by omega, rfl, Lib.hid (.inl ⟨by omega, rfl, rfl⟩)⟩
  case round =>
    obtain ⟨j, rfl, hj, hg, rfl, AT⟩ := hrel
    by_cases hlt : (j : Int) < (m.size : Int)
    · have hjn : j < m.size := by omega
      by_cases hc : j = K + 1
      · have hx : ((m[j].toNat : Nat) : Int) = 10 := by
          have : m[j] = 10 := by subst hc; exact RS.out.ten hjn
          rw [this]; rfl
        rcases AT.out with ⟨h1, rfl, rfl⟩ | ⟨h1, _, _⟩
        · have A1 : Hid (AtNl K (j + 1) (.int .i64 1) (.int .i64 (j : Int))) := Lib.hid (.inr ⟨by omega, rfl, by rw [hc]⟩)
          clear hc h1 AT hl1
          go_wp2
          go_roundg (m.size - (j + 1))
          case measure => omega
          case rel => exact ⟨j + 1, by go_num, by omega, Nat.le_refl _, rfl, A1⟩
        · exact absurd h1 (by omega)
      · have hx : ¬ ((m[j].toNat : Nat) : Int) = 10 := fun e => RS.out.other j hjn hc (Lib.byte_eq_of_toNat (b := 10) e)
        rcases AT.out with ⟨h1, rfl, rfl⟩ | ⟨h1, rfl, rfl⟩
        · have A1 : Hid (AtNl K (j + 1) (.int .i64 0) (.int .i64 (-1))) := Lib.hid (.inl ⟨by omega, rfl, rfl⟩)
          clear hc h1 AT hl1
          go_wp2
          go_roundg (m.size - (j + 1))
          case measure => omega
          case rel => exact ⟨j + 1, by go_num, by omega, Nat.le_refl _, rfl, A1⟩
        · have A1 : Hid (AtNl K (j + 1) (.int .i64 1) (.int .i64 ((K + 1 : Nat) : Int))) := Lib.hid (.inr ⟨by omega, rfl, rfl⟩)
          clear hc h1 AT hl1
          go_wp2
          go_roundg (m.size - (j + 1))
          case measure => omega
          case rel => exact ⟨j + 1, by go_num, by omega, Nat.le_refl _, rfl, A1⟩
    · rcases AT.out with ⟨h1, _, _⟩ | ⟨h1, rfl, rfl⟩
      · exact absurd mk (by omega)
      · clear AT
        rcases (show K = 0 ∨ K = 1 by omega) with rfl | rfl
        · have h0 : 0 < m.size := by omega
          have hx : ((m[0].toNat : Nat) : Int) = 92 := by rw [RS.out.back h0]; rfl
          clear mk h1 hK1
          go_wp2
          go_ret
          exact ⟨rfl, BW1.out⟩
        · have h0 : 0 < m.size := by omega
          have h1' : 1 < m.size := by omega
          have hx : ((m[1].toNat : Nat) : Int) = 92 := by rw [RS.out.back h1']; rfl
          have hy : ((m[0].toNat : Nat) : Int) = 32 := by rw [RS.out.blank 0 h0 (by omega)]; rfl
          clear mk h1 hK1
          go_wp2
          go_ret
          exact ⟨rfl, BW1.out⟩
theorem law11 (mini kp : Bool) (x2 x3 x4 x5 : Int) (t : ByteArray) (h2 : (Lit.int .u64 x2).wf = true) (h3 : (Lit.int .u64 x3).wf = true) (h4 : (Lit.int .u64 x4).wf = true) (h5 : (Lit.int .u8 x5).wf = true) (w : World) :
    Calls Try.prog 11 #[.bool mini, .bool kp, .int .u64 x2, .int .u64 x3, .int .u64 x4, .int .u8 x5, .string t] w fun e w' => e = .returned (.bool true) ∧ Below w.heap.size w w' := by
  obtain ⟨ind, rfl, ha⟩ := wf_u64 h2
  obtain ⟨lev, rfl, hb⟩ := wf_u64 h3
  obtain ⟨ln, rfl, hc⟩ := wf_u64 h4
  obtain ⟨ws, rfl, hd⟩ := wf_u8 h5
  exact law11' mini kp ind lev ln ws t w ha hb hc hd
end Go.Proofs.Ytonhphjejlidiaa
