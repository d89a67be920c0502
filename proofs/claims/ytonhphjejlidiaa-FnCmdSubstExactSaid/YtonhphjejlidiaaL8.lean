/-
  The walk of FnCmdSubstExact. Conditions: those in each theorem.
-/
import Derived.Test.YtonhphjejlidiaaCs3
import Derived.Laws.MakeOwn
namespace Go.Proofs.Ytonhphjejlidiaa
set_option linter.unusedVariables false
open Go.Shelf Go.RowKit Go.Lib

theorem make54 (c : Nat) (hc : c ≤ 1048576) : ∃ cs : Array Value, cs.size = c ∧ ∀ w : World, (Instr.makeSlice 54 (.int .i64 0) (.int .i64 (c : Int))).run Try.prog w = .ok (.slice (some ⟨w.heap.size, 0, none⟩) 0 c) (w.alloc (.cells cs 5)) := by
  obtain ⟨i, h1, h2, h3, h4⟩ := inf5
  refine ⟨madeCells (Value.int .u8 0).cells (c * i.size), ?_, fun w => ?_⟩
  · rw [size_madeCells, h3]; simp
  · have := run_make (P := Try.prog) w 54 5 i _ Try.underlying54 h1 h2 .i64 .i64 0 c (by omega) (by omega) (by rw [h4]; omega) (by omega)
    rw [Int.toNat_natCast] at this
    exact this

/-- what has been collected behind i bytes -/
structure Coll (B : Nat) (s : ByteArray) (v : Value) (i : Nat) (wr : World) (w : World) : Prop where
  own : wr.ownsRow B 5 1 v (noNul (s.data.toList.take i)).length (byteCells (noNul (s.data.toList.take i)))
  below : Below B w wr
theorem noNul_take (s : ByteArray) (i : Nat) (h : i < s.size) : noNul (s.data.toList.take (i + 1)) = noNul (s.data.toList.take i) ++ (if s[i] = 0 then [] else [s[i]]) := by
  rw [List.take_add_one, Lib.data_getElem? s i h]
  exact noNul_snoc _ _

theorem new1 (w : World) (c : Value) : ∀ j u, [c][j]? = some u → (w.alloc (.cells #[c] 5)).cell? ((⟨w.heap.size, 0, none⟩ : Addr).add j) = some u := by
  intro j u hj
  match j, hj with
  | 0, hj => simp at hj; subst hj; simp [Addr.add]
theorem one1 (x : Int) : ∀ u ∈ [Value.int .u8 x], u.oneCell' = true := by
  intro u hu
  simp at hu
  subst hu
  rfl
theorem coll_step {B : Nat} {s : ByteArray} {v v' : Value} {i : Nat} {wr w w2 : World} {o : Obj} {c : UInt8} (hB : B ≤ w.heap.size) (h : Coll B s v i wr w) (ht : noNul (s.data.toList.take (i + 1)) = noNul (s.data.toList.take i) ++ [c])
    (ho : w2.ownsRow B 5 1 v' ((noNul (s.data.toList.take i)).length + 1) (byteCells (noNul (s.data.toList.take i)) ++ [.int .u8 (c.toNat : Int)])) (hg : (wr.alloc o).grownBy w2 v.ownBlock) : Coll B s v' (i + 1) w2 w := by
  refine ⟨?_, (h.below.alloc (Nat.le_trans hB h.below.size) _).grown hg (by have := h.below.size; simp; omega) (fun k hk => (h.own.lt k hk).1)⟩
  rw [ht, byteCells_append, List.length_append]
  exact ho

set_option maxRecDepth 20000 in
set_option maxHeartbeats 16000000 in
theorem law8 (handler : Bool) (s : ByteArray) (w : World) : Calls Try.prog 8 #[.bool handler, .string s] w fun e w' => e = .returned (.bool true) ∧ Below w.heap.size w w' := by
  by_cases c0 : (1048576 : Int) < (s.size : Int)
  · go_enter Try.func8, Try.ntmps8
    go_wp2_with (go_at_call 32; go_in)
    all_goals (go_ret; exact ⟨rfl, Below.refl _ _⟩)
  have D := Lib.hid (door33 handler s w (by omega))
  cases handler
  · go_enter Try.func8, Try.ntmps8
    go_wp2_with (first | (go_at_call 32; go_in) | (go_at_call 33; refine D.out.mono ?_; rintro e w1 ⟨rfl, h1⟩; have H1 := Lib.hid h1; clear h1 D))
    go_ret
    exact ⟨rfl, H1.out⟩
  · obtain ⟨gs, hgs⟩ : ∃ gs : ByteArray, gs = ⟨(rtrim nl (noNul s.data.toList)).toArray⟩ := ⟨_, rfl⟩
    have D2 : Hid (Calls Try.prog 33 #[.bool true, .string s] w fun e w' => e = .returned (.tuple #[.string gs, .bool true]) ∧ Below w.heap.size w w') := Lib.hid (D.out.mono fun e w' h => ⟨by rw [hgs]; exact h.1, h.2⟩)
    have HG := Lib.hid hgs
    have hsi : (s.size : Int) ≤ 1048576 := by omega
    obtain ⟨i0, hi, hz0, hz1, hz2⟩ := inf5
    have HI := Lib.hid (And.intro hi (And.intro hz0 (And.intro hz1 hz2)))
    clear D hgs hi hz0 hz1 hz2
    go_enter Try.func8, Try.ntmps8
    go_wp2_with (first | (go_at_call 32; go_in) | (go_at_call 33; refine D2.out.mono ?_; rintro e w1 ⟨rfl, h1⟩; have H1 := Lib.hid h1; clear h1 D2))
    go_loopg [7] (s.size) (fun g v7 wr => ∃ n : Nat, v7 = .int .i64 n ∧ (n : Int) ≤ (s.size : Int) ∧ n ≤ g ∧ wr = w1 ∧ Hid (∀ j, n ≤ j → ∀ c, s.data.toList[j]? = some c → nlz c = true))
    case atStart => exact ⟨s.size, rfl, by omega, Nat.le_refl _, rfl, Lib.hid fun j hj c hc => by have := (List.getElem?_eq_some_iff.1 hc).1; simp at this; omega⟩
    case round =>
      obtain ⟨n, rfl, hn, hg, rfl, HF⟩ := hrel
      by_cases hmore : ∃ m, n = m + 1 ∧ ∃ h : m < s.size, nlz s[m] = true
      · obtain ⟨m, rfl, hm, hc⟩ := hmore
        have hmi : (m : Int) < (s.size : Int) := by omega
        have hx : s.data.toList[m]? = some s[m] := Lib.data_getElem? s m hm
        have HF2 : Hid (∀ j, m ≤ j → ∀ c, s.data.toList[j]? = some c → nlz c = true) := Lib.hid fun j hj d hd => by
          by_cases e : j = m
          · subst e; rw [hx] at hd; rw [← Option.some.inj hd]; exact hc
          · exact HF.out j (by omega) d hd
        have hor : s[m] = 0 ∨ s[m] = 10 := by simpa [nlz] using hc
        rcases hor with h0 | h0
        · have c' : ((s[m].toNat : Nat) : Int) = 0 := by rw [h0]; rfl
          clear hc hx h0
          go_wp2
          go_roundg m
          case measure => omega
          case rel => exact ⟨m, rfl, by omega, Nat.le_refl _, rfl, HF2⟩
        · have c' : ((s[m].toNat : Nat) : Int) = 10 := by rw [h0]; rfl
          clear hc hx h0
          go_wp2
          go_roundg m
          case measure => omega
          case rel => exact ⟨m, rfl, by omega, Nat.le_refl _, rfl, HF2⟩
      · have R : Hid (gs = ⟨(noNul (s.data.toList.take n)).toArray⟩) := Lib.hid (by
          rw [HG.out, trim_law _ _ rfl, rtrim_take nlz (s.size - n) _ n (by simp; omega) HF.out]
          by_cases h0 : n = 0
          · exact .inl h0
          · have hm : n - 1 < s.size := by omega
            exact .inr ⟨s[n - 1], Lib.data_getElem? s (n - 1) hm, by
              cases hq : nlz s[n - 1]
              · rfl
              · exact absurd ⟨n - 1, by omega, hm, hq⟩ hmore⟩)
        by_cases hz : (0 : Int) < (n : Int)
        · obtain ⟨m, rfl⟩ : ∃ m, n = m + 1 := ⟨n - 1, by omega⟩
          have hm : m < s.size := by omega
          have hmi : (m : Int) < (s.size : Int) := by omega
          have hq : nlz s[m] = false := by
            cases hq : nlz s[m]
            · rfl
            · exact absurd ⟨m, rfl, hm, hq⟩ hmore
          have hor : ¬ s[m] = 0 ∧ ¬ s[m] = 10 := by simpa [nlz] using hq
          have c1 : (((s[m].toNat : Nat) : Int) == 0) = false := by rw [beq_eq_false_iff_ne]; exact fun h => hor.1 (Lib.byte_eq_of_toNat (b := 0) h)
          have c2 : (((s[m].toNat : Nat) : Int) == 10) = false := by rw [beq_eq_false_iff_ne]; exact fun h => hor.2 (Lib.byte_eq_of_toNat (b := 10) h)
          obtain ⟨cs, hcs, hmk⟩ := make54 (m + 1) (by omega)
          rw [show ((m + 1 : Nat) : Int) = (m : Int) + 1 by omega] at hmk
          have S0 : Hid (Coll w.heap.size s (.slice (some ⟨wr.heap.size, 0, none⟩) 0 (m + 1)) 0 (wr.alloc (.cells cs 5)) w) := Lib.hid ⟨⟨rfl, .inr ⟨wr.heap.size, m + 1, cs, rfl, H1.out.size, heap_alloc_new wr _, Nat.zero_le _, by unfold maxLen; omega, by omega, rfl⟩⟩, H1.out.alloc H1.out.size _⟩
          clear hor hq hmore
          go_wp2
          obtain ⟨hi, hz0, hz1, hz2⟩ := HI.out
          go_loopg [8, 9] (m + 1) (fun g v8 v9 wx => ∃ i : Nat, v9 = .int .i64 i ∧ (i : Int) ≤ ((m + 1 : Nat) : Int) ∧ m + 1 - i ≤ g ∧ Hid (Coll w.heap.size s v8 i wx w))
          case atStart => exact ⟨0, rfl, by omega, by omega, S0⟩
          case round =>
            clear S0 hmk
            obtain ⟨i, rfl, hi1, hg1, CO⟩ := hrel
            by_cases hlt : (i : Int) < ((m + 1 : Nat) : Int)
            · have his : i < s.size := by omega
              have hisi : (i : Int) < (s.size : Int) := by omega
              have HT := noNul_take s i his
              by_cases h0 : s[i] = 0
              · have c' : ((s[i].toNat : Nat) : Int) = 0 := by rw [h0]; rfl
                rw [if_pos h0, List.append_nil] at HT
                have CO2 : Hid (Coll w.heap.size s _ (i + 1) _ w) := Lib.hid ⟨by rw [HT]; exact CO.out.own, CO.out.below⟩
                clear HT h0 CO
                go_wp2
                go_roundg (m + 1 - (i + 1))
                case measure => omega
                case rel => exact ⟨i + 1, by go_num, by omega, Nat.le_refl _, CO2⟩
              · have c' : ¬ ((s[i].toNat : Nat) : Int) = 0 := fun h => h0 (Lib.byte_eq_of_toNat (b := 0) h)
                rw [if_neg h0] at HT
                have HT2 := Lib.hid HT
                have hle : (noNul (s.data.toList.take i)).length ≤ 1048576 := by have := noNul_len (s.data.toList.take i); rw [List.length_take] at this; omega
                clear HT h0
                go_wp2_with (at_builtin; refine wpList_append_own _ rfl _ _ 54 rfl w.heap.size 5 i0 (.int .u8 0) 1 1 Try.underlying54 hi hz0 hz1 hz2 rfl (by decide) _ _ _ rfl (CO.out.own.alloc _) ⟨_, 0, none⟩ 1 1 [.int .u8 (s[i].toNat : Int)] rfl rfl (new1 _ _) (one1 _) (by unfold maxLen; omega) (by omega) (by have := CO.out.below.size; simp; omega) ?_)
                intro v' w2 hown' hgrow _
                have CO2 : Hid (Coll w.heap.size s v' (i + 1) w2 w) := Lib.hid (coll_step (Nat.le_refl _) CO.out HT2.out hown' hgrow)
                clear hown' hgrow CO HT2
                go_wp2
                go_roundg (m + 1 - (i + 1))
                case measure => omega
                case rel => exact ⟨i + 1, by go_num, by omega, Nat.le_refl _, CO2⟩
            · have hin : i = m + 1 := by omega
              subst hin
              have hcv := conv54 _ _ _ _ CO.out.own
              rw [← R.out] at hcv
              have hq : (gs.toList == gs.toList) = true := by simp
              have BW := Lib.hid CO.out.below
              clear CO
              go_wp2
              go_ret
              exact ⟨rfl, BW.out⟩
        · have hz2 : ¬ (0 : Int) < (n : Int) := hz
          obtain ⟨cs, hcs, hmk⟩ := make54 n (by omega)
          have S0 : Hid (Coll w.heap.size s (.slice (some ⟨wr.heap.size, 0, none⟩) 0 n) 0 (wr.alloc (.cells cs 5)) w) := Lib.hid ⟨⟨rfl, .inr ⟨wr.heap.size, n, cs, rfl, H1.out.size, heap_alloc_new wr _, Nat.zero_le _, by unfold maxLen; omega, by omega, rfl⟩⟩, H1.out.alloc H1.out.size _⟩
          clear hmore
          go_wp2
          obtain ⟨hi, hz0, hz1, hz2⟩ := HI.out
          go_loopg [8, 9] (n) (fun g v8 v9 wx => ∃ i : Nat, v9 = .int .i64 i ∧ (i : Int) ≤ ((n : Nat) : Int) ∧ n - i ≤ g ∧ Hid (Coll w.heap.size s v8 i wx w))
          case atStart => exact ⟨0, rfl, by omega, by omega, S0⟩
          case round =>
            clear S0 hmk
            obtain ⟨i, rfl, hi1, hg1, CO⟩ := hrel
            by_cases hlt : (i : Int) < ((n : Nat) : Int)
            · exact absurd hlt (by omega)
            · have hin : i = n := by omega
              subst hin
              have hcv := conv54 _ _ _ _ CO.out.own
              rw [← R.out] at hcv
              have hq : (gs.toList == gs.toList) = true := by simp
              have BW := Lib.hid CO.out.below
              clear CO
              go_wp2
              go_ret
              exact ⟨rfl, BW.out⟩
end Go.Proofs.Ytonhphjejlidiaa
