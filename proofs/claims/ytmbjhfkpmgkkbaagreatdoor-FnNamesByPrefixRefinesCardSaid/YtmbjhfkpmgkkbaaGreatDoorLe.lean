/-
  The walk of listEnviron_, case-sensitive: it hands back the thinned list of the pairs. Conditions: at most 2 to the 20 pairs, each of at most 2 to the 30 bytes.
-/
import Derived.Test.YtmbjhfkpmgkkbaaGreatDoorEnv1
namespace Go.Proofs.YtmbjhfkpmgkkbaaGreatDoor
set_option linter.unusedVariables false
open Go.Shelf Go.RowKit Go.Lib Go.Sort

theorem compare_named (sv : Value) (a b : ByteArray) (w : World) (c : Int) (hc : Hid (compareBytes a.data.toList b.data.toList = c)) :
    Calls Tryz.prog 20 #[.agg #[.bool false, sv], .string a, .string b] w fun e w' => e = .returned (.int .i64 c) ∧ Below w.heap.size w w' :=
  (compare_false sv a b w).mono fun e w' ⟨he, hw⟩ => ⟨by rw [he, hc.out], by rw [hw]; exact (Below.refl _ _).alloc (Nat.le_refl _) _⟩

theorem bel_drewN {w w1 : World} (h : ∃ n, w1 = w.drewN n) : Below w.heap.size w w1 := by
  obtain ⟨n, rfl⟩ := h
  induction n with
  | zero => exact Below.refl _ _
  | succ n ih => exact ih.drew

/-- the sorted row, as the loop takes it over -/
theorem inv_sorted {w0 w2 W : World} {g eb : Nat} {d : Array Str} (hb : Below w0.heap.size w0 w2) (gB : w0.heap.size ≤ g) (eB : w0.heap.size ≤ eb) (gL : g < w2.heap.size) (eL : eb < w2.heap.size) (ne : eb ≠ g)
    (hH : Holds encS w2 g 0 d) (e0 : w2.cell? ⟨eb, 0, none⟩ = some (.bool false)) (e1 : w2.cell? ⟨eb, 1, none⟩ = some (.slice none 0 0)) (f1 : w2.frozen? ⟨eb, 1, none⟩ = false)
    (hM : Merged Envp.blt keyS encS w2 g 0 d 0 d.size W) :
    ∃ L : List (List UInt8), L.length = d.size ∧ Inv w0 W g eb L ∧ Envp.Env (d.toList.map Subtype.val) (Envp.dd id L).1 ∧ (∀ x ∈ L, x.length ≤ 1073741824) := by
  obtain ⟨d', m, s, hS⟩ := hM
  have I0 : Inv w0 w2 g eb (d.toList.map Subtype.val) := ⟨hb, gB, eB, gL, eL, ne, holds_val hH, e0, e1, f1⟩
  refine ⟨d'.toList.map Subtype.val, by simp [m.size], I0.step (near_SW hS) (holds_val (hS.holds gL hH m.size)), Envp.env_of_sorted (sorted_pairwise m.size.symm s) (sorted_filter m), fun x hx => ?_⟩
  rw [List.mem_map] at hx
  obtain ⟨y, _, rfl⟩ := hx
  exact y.2

theorem del_v {w0 W : World} {g eb : Nat} {X : List (List UInt8)} (h : Inv w0 W g eb X) (k i j cap : Nat) (hk : k = X.length) (hi : i < k) (hj : j = i + 1) (hcap : k ≤ cap) (hm : cap ≤ maxLen) (Y : List (List UInt8)) (hY : X.take i ++ X.drop (i + 1) = Y) (kk : Nat) (hkk : kk = k - 1) :
    Calls Tryz.prog 22 #[.slice (some ⟨g, 0, none⟩) k cap, .int .i64 i, .int .i64 j] W fun e w' => e = .returned (.slice (some ⟨g, 0, none⟩) kk cap) ∧ Inv w0 w' g eb Y := by
  subst hj hY hkk
  exact del_s h k i cap hk hi hcap hm

set_option maxHeartbeats 4000000 in
set_option maxRecDepth 100000 in
theorem env_ne (b off c : Nat) (P : List ByteArray) (w : World) (hP : ∀ s ∈ P, s.size ≤ 1073741824) (h1 : 1 ≤ P.length) (hn : P.length ≤ 1048576)
    (hc : ∀ j, j < P.length → w.cell? ⟨b, off + j, none⟩ = some (.string (P.getD j ByteArray.empty))) :
    Calls Tryz.prog 14 #[.bool false, .slice (some ⟨b, off, none⟩) P.length c] w (EnvOut w (P.map (·.data.toList))) := by
  obtain ⟨zs, hz⟩ := lift_strs (P.map (·.data.toList)) (fun x hx => by
    rw [List.mem_map] at hx
    obtain ⟨s, hs, rfl⟩ := hx
    have := hP s hs
    simpa using this)
  obtain ⟨n, hnn⟩ : ∃ n, n = P.length := ⟨_, rfl⟩
  have CL := Lib.hid (fun W (hW : W = w) => Tryz.slices_Clone_string b off P.length c P w (Nat.le_refl _) (by omega) hc)
  have hzl : zs.length = n := by have := congrArg List.length hz; simpa [hnn] using this
  have ES := encS_map P zs hz
  have HE := Lib.hid (show (∀ W, Envp.Env (zs.map Subtype.val) W → Envp.Env (P.map (·.data.toList)) W) from fun W h => by rw [← hz]; exact h)
  rw [List.take_length, ES] at CL
  rw [← hnn] at CL ⊢
  have nb : (n : Int) ≤ 1048576 := by omega
  have n1 : (1 : Int) ≤ (n : Int) := by omega
  have ZL := Lib.hid hzl
  clear hc hP h1 hn hnn hz hzl ES
  go_enter Tryz.func14, Tryz.ntmps14
  go_wp2_with (go_at_call 16; go_must (refine (CL.out _ rfl).mono ?_); rintro e w1 ⟨v', rfl, hown, hnil, hb⟩)
  obtain ⟨g, cap, hv, hgB, hgL, hcap, hm, _, hH⟩ := holds_of_ownsRow hown hnil
  rw [hv]
  have hgw : g ≠ w1.heap.size := by omega
  obtain ⟨w2, hw2⟩ : ∃ W, W = w1.alloc (.cells #[.bool false, .slice none 0 0] 56) := ⟨_, rfl⟩
  have b2 : Below w1.heap.size w1 w2 := by rw [hw2]; exact (Below.refl _ _).alloc (Nat.le_refl _) _
  have H2 : Holds encS w2 g 0 zs.toArray := fun j hj => by
    rw [World.cell?_of_block (w := w1) (b2.block g hgL), World.frozen?_of_block (w := w1) (b2.block g hgL)]; exact hH j hj
  have c0 : w2.cell? ⟨w1.heap.size, 0, none⟩ = some (.bool false) := by rw [hw2]; simp
  have c1 : w2.cell? ⟨w1.heap.size, 1, none⟩ = some (.slice none 0 0) := by rw [hw2]; simp
  have f1 : w2.frozen? ⟨w1.heap.size, 1, none⟩ = false := by rw [hw2]; simp
  have s2 : w2.heap.size = w1.heap.size + 1 := by rw [hw2]; simp
  have bw2 : Below w.heap.size w w2 := hb.trans (b2.mono hb.size)
  have SRT := Lib.hid (sort_s zs.toArray g 0 cap w1.heap.size w2 H2 (by omega) (fun e => hgw e.symm) (by omega) c0 c1 (by simp; have := ZL.out; omega))
  have INV := Lib.hid (fun W (hM : Merged Envp.blt keyS encS w2 g 0 zs.toArray 0 zs.toArray.size W) => inv_sorted bw2 hgB hb.size (by omega) (by omega) (fun e => hgw e.symm) H2 c0 c1 f1 hM)
  have ez : zs.toArray.size = n := by simp; exact ZL.out
  rw [ez] at SRT INV
  have HW2 := Lib.hid hw2
  clear CL hown hnil hH H2 c0 c1 f1 ez b2 bw2 hw2 s2
  go_wp2_with fail
  rw [← HW2.out]
  refine SRT.out.mono ?_
  rintro e w3 ⟨rfl, hM⟩
  obtain ⟨L, hL, hI, hE, hLb⟩ := INV.out _ hM
  obtain ⟨R, hR⟩ : ∃ R, R = (Envp.dd id L).1 := ⟨_, rfl⟩
  have TD : Hid (Todo [] L [] R) := by rw [hR]; exact todo_start L
  have ER : Hid (Envp.Env (P.map (·.data.toList)) R) := by rw [hR]; exact HE.out _ hE
  have hLn : L.length = n := hL
  have LN := Lib.hid hLn
  have LB := Lib.hid hLb
  have I0 := Lib.hid hI
  clear hM INV SRT hL hI hE hLb hR hLn HE ZL HW2 hb hgL hgw
  generalize w1.heap.size = eb at I0 ⊢
  go_wp2
  go_loopg [5, 7, 8] n (fun g1 vl vs vi wr => ∃ (acc rest : List (List UInt8)) (last : ByteArray) (k i : Nat), vl = .slice (some ⟨g, 0, none⟩) k cap ∧ vs = .string last ∧ vi = .int .i64 i ∧ (i : Int) ≤ (k : Int) ∧ (k : Int) ≤ (n : Int) ∧ k - i ≤ g1 ∧
    Hid (k = (acc ++ rest).length) ∧ Hid (i = acc.length) ∧ Hid (Todo acc rest last.data.toList R) ∧ Hid (∀ x ∈ acc ++ rest, x.length ≤ 1073741824) ∧ Hid (Inv w wr g eb (acc ++ rest)))
  case atStart => exact ⟨[], L, ⟨#[]⟩, n, 0, rfl, rfl, by go_num, by omega, by omega, by omega, LN.out.symm, rfl, TD, LB, I0⟩
  case round =>
    clear I0 LB LN TD
    obtain ⟨acc, rest, last, k, i, rfl, rfl, rfl, hik, hkn, hg1, HK, HI, HT, HB, IV⟩ := hrel
    cases rest with
    | nil =>
      have hke : k = i := by have := HK.out; have := HI.out; simp at *; omega
      have hlt : ¬ (i : Int) < (k : Int) := by omega
      have hRe : acc = R := todo_end HT.out
      have hkr : k = R.length := by have := HI.out; rw [← hRe]; omega
      have c0 := IV.out.e0
      have c1 := IV.out.e1
      have f1 := IV.out.f1
      have G : Hid (∀ sv, sv = .slice (some ⟨g, 0, none⟩) k cap → EnvOut w (P.map (·.data.toList)) (.returned (.iface 56 (.agg #[.bool false, sv]))) (wr.setCell ⟨eb, 1, none⟩ sv)) := fun sv hsv => by
        have hX : acc ++ [] = R := by rw [List.append_nil, hRe]
        have IV' := IV.out
        rw [hX] at IV'
        refine ⟨sv, R, rfl, ER.out, IV'.bel.setCell IV'.eB sv, some ⟨g, 0, none⟩, cap, by rw [hsv, hkr], by omega, hm, fun _ => ⟨g, rfl, IV'.gB, by simpa using IV'.gL, ?_⟩⟩
        have hblk : (wr.setCell ⟨eb, 1, none⟩ sv).heap[g]? = wr.heap[g]? := Below.heap_setCell _ _ _ _ (fun e => IV'.ne e.symm)
        exact holds_near hblk IV'.h
      clear hke hRe hkr HK HI HT HB IV ER
      go_wp2
      go_ret
      exact G.out _ rfl
    | cons x xs =>
      have hkl : k = acc.length + (xs.length + 1) := by have := HK.out; simpa using this
      have hil : i = acc.length := HI.out
      have hlt : (i : Int) < (k : Int) := by omega
      obtain ⟨xb, hxb⟩ : ∃ xb : ByteArray, xb = ⟨x.toArray⟩ := ⟨_, rfl⟩
      have cx : wr.cell? ⟨g, i, none⟩ = some (.string xb) := by
        have := IV.out.cell i (by simp; omega)
        rw [this, hxb]
        simp [hil]
      have XL : xb.data.toList = x := by rw [hxb]
      have hxs : xb.size ≤ 1073741824 := by
        have h1 := HB.out x (by simp)
        have h2 : xb.data.toList.length = xb.size := by simp
        rw [XL] at h2; omega
      have XLH := Lib.hid XL
      have HKL := Lib.hid hkl
      have HB2 : Hid (∀ y ∈ acc ++ xs, y.length ≤ 1073741824) := fun y hy => HB.out y (by simp at hy ⊢; rcases hy with h | h; exact Or.inl h; exact Or.inr (Or.inr h))
      obtain ⟨kk, hkk⟩ : ∃ q, q = k - 1 := ⟨_, rfl⟩
      obtain ⟨i2, hi2⟩ : ∃ q, q = i + 1 := ⟨_, rfl⟩
      have zi2 : (i : Int) + 1 = (i2 : Int) := by omega
      have zk1 : (kk : Int) ≤ (n : Int) := by omega
      have zk2 : (i : Int) ≤ (kk : Int) := by omega
      have zk3 : kk - i + 1 ≤ k - i := by omega
      have HKK : Hid (kk = (acc ++ xs).length) := by show _ = _; simp; omega
      have DEL : Hid (∀ W, Hid (Inv w W g eb (acc ++ x :: xs)) → Calls Tryz.prog 22 #[.slice (some ⟨g, 0, none⟩) k cap, .int .i64 i, .int .i64 i2] W fun e w' => e = .returned (.slice (some ⟨g, 0, none⟩) kk cap) ∧ Inv w w' g eb (acc ++ xs)) :=
        fun W hW => del_v hW.out k i i2 cap HK.out (by omega) hi2 (by omega) hm _ (by rw [hil]; exact del_skip acc xs x) kk hkk
      have p0 : (0 : Int) ≤ (i : Int) := by omega
      clear hkl XL hxb hi2 hkk
      rcases at_cases x with hx | ⟨p, hx⟩
      · have TD2 : Hid (Todo acc xs last.data.toList R) := todo_skip HT.out (by unfold Envp.valid Envp.eqAt; rw [hx]; rfl)
        have CUT := Lib.hid (cutEq_none xb wr hxs (by rw [XLH.out]; exact hx))
        clear HT hx hil
        go_wp2_with (first | (go_at_call 21; go_must (refine CUT.out.mono ?_); rintro e w' ⟨rfl, rfl⟩) | (go_at_call 22; go_must (refine (DEL.out _ IV).mono ?_); rintro e w' ⟨rfl, hI2⟩))
        all_goals
          have IV2 := Lib.hid hI2
          clear hI2 IV CUT DEL
          go_roundg (kk - i)
          case measure => omega
          case rel => exact ⟨acc, xs, last, kk, i, rfl, rfl, rfl, zk2, zk1, Nat.le_refl _, HKK, HI, TD2, HB2, IV2⟩
      · have hx' : indexByte xb.data.toList 61 = p := by rw [XLH.out]; exact hx
        by_cases hp : p = 0
        · subst hp
          have TD2 : Hid (Todo acc xs last.data.toList R) := todo_skip HT.out (by unfold Envp.valid Envp.eqAt; rw [hx]; rfl)
          have CUT := Lib.hid (fun W => cutEq_some xb W 0 hxs hx' ⟨#[]⟩ (xb.extract 1 xb.size) (by show _ = _; apply ByteArray.ext; apply Array.toList_inj.1; rw [extract_data]; simp) rfl)
          clear HT hx hx' hil
          go_wp2_with (first | (go_at_call 21; go_must (refine (CUT.out _).mono ?_); rintro e w4 ⟨rfl, hq⟩; have IV' := Lib.hid (IV.out.below (bel_drewN hq)); clear hq IV) | (go_at_call 22; go_must (refine (DEL.out _ IV').mono ?_); rintro e w' ⟨rfl, hI2⟩))
          have IV2 := Lib.hid hI2
          clear hI2 IV' CUT DEL
          go_roundg (kk - i)
          case measure => omega
          case rel => exact ⟨acc, xs, last, kk, i, rfl, rfl, rfl, zk2, zk1, Nat.le_refl _, HKK, HI, TD2, HB2, IV2⟩
        · have hv : Envp.valid x = true := by unfold Envp.valid Envp.eqAt; rw [hx]; exact decide_eq_true (by omega)
          obtain ⟨nm, hnm⟩ : ∃ b, b = xb.extract 0 p := ⟨_, rfl⟩
          have NML : nm.data.toList = Envp.nameOf x := by
            rw [hnm, extract_data, List.drop_zero, XLH.out]
            unfold Envp.nameOf Envp.eqAt
            rw [hx]; simp
          have nne : ¬ nm.toList = [] := by
            rw [toList_data, NML]; exact (Envp.key_valid hv).2.2.1
          have nne2 : nm.toList.isEmpty = false := by
            cases e : nm.toList with
            | nil => exact absurd e nne
            | cons a l => rfl
          have CUT := Lib.hid (fun W => cutEq_some xb W p hxs hx' nm (xb.extract (p + 1) xb.size) hnm rfl)
          have NM := Lib.hid NML
          by_cases hc : compareBytes last.data.toList (Envp.nameOf x) = 0
          · obtain ⟨hne, td⟩ := todo_dup HT.out hv hc
            have TD2 := Lib.hid td
            have CMP := Lib.hid (fun W => compare_named (.slice none 0 0) last nm W 0 (by show _ = _; rw [NML]; exact hc))
            have hal : 0 < acc.length := List.length_pos_iff.2 hne
            obtain ⟨i1, hi1⟩ : ∃ q, q = i - 1 := ⟨_, rfl⟩
            have zi1 : (i : Int) - 1 = (i1 : Int) := by omega
            have q1 : (0 : Int) ≤ (i1 : Int) := by omega
            have DEL2 : Hid (∀ W, Hid (Inv w W g eb (acc ++ x :: xs)) → Calls Tryz.prog 22 #[.slice (some ⟨g, 0, none⟩) k cap, .int .i64 i1, .int .i64 i] W fun e w' => e = .returned (.slice (some ⟨g, 0, none⟩) kk cap) ∧ Inv w w' g eb ((acc.dropLast ++ [x]) ++ xs)) :=
              fun W hW => del_v hW.out k i1 i cap HK.out (by omega) (by omega) (by omega) hm _ (by rw [hi1, hil]; exact del_dup acc xs x hne) kk (by have := HKK.out; have := HK.out; simp at *; omega)
            have HKK2 : Hid (kk = ((acc.dropLast ++ [x]) ++ xs).length) := by have := HKK.out; show _ = _; simp at *; omega
            have HI2 : Hid (i = (acc.dropLast ++ [x]).length) := by show _ = _; simp; omega
            have HB3 : Hid (∀ y ∈ (acc.dropLast ++ [x]) ++ xs, y.length ≤ 1073741824) := fun y hy => HB.out y (by
              simp only [List.mem_append, List.mem_cons, List.not_mem_nil, or_false] at hy ⊢
              rcases hy with (h | h) | h
              · exact Or.inl ((List.dropLast_sublist acc).subset h)
              · exact Or.inr (Or.inl h)
              · exact Or.inr (Or.inr h))
            clear HT hx hx' hil hne td hal hi1 hc NML hnm hv DEL hp
            go_wp2_with (first | (go_at_call 21; go_must (refine (CUT.out _).mono ?_); rintro e w4 ⟨rfl, hq⟩; have IV' := Lib.hid (IV.out.below (bel_drewN hq)); clear hq IV; have e0 := IV'.out.e0; have e1 := IV'.out.e1) | (go_at_call 20; go_must (refine (CMP.out _).mono ?_); rintro e w5 ⟨rfl, hq⟩; have IV3 := Lib.hid (IV'.out.below hq); clear hq IV' e0 e1) | (go_at_call 22; go_must (refine (DEL2.out _ IV3).mono ?_); rintro e w' ⟨rfl, hI2⟩))
            have IV2 := Lib.hid hI2
            clear hI2 IV3 CUT DEL2
            go_roundg (kk - i)
            case measure => omega
            case rel => exact ⟨acc.dropLast ++ [x], xs, last, kk, i, rfl, rfl, rfl, zk2, zk1, Nat.le_refl _, HKK2, HI2, TD2, HB3, IV2⟩
          · have td := todo_keep HT.out hv hc
            have TD2 : Hid (Todo (acc ++ [x]) xs nm.data.toList R) := by rw [NML]; exact td
            obtain ⟨cc, hcc⟩ : ∃ c, c = compareBytes last.data.toList (Envp.nameOf x) := ⟨_, rfl⟩
            have CMP := Lib.hid (fun W => compare_named (.slice none 0 0) last nm W cc (by show _ = _; rw [NML, hcc]))
            have hcz : (cc == 0) = false := by rw [hcc]; exact beq_eq_false_iff_ne.2 hc
            have HK2 : Hid (k = ((acc ++ [x]) ++ xs).length) := by have := HK.out; show _ = _; simp at *; omega
            have HI2 : Hid (i2 = (acc ++ [x]).length) := by show _ = _; simp; omega
            have HB3 : Hid (∀ y ∈ (acc ++ [x]) ++ xs, y.length ≤ 1073741824) := fun y hy => HB.out y (by simpa using hy)
            have LST : ∀ W, Hid (Inv w W g eb (acc ++ x :: xs)) → Hid (Inv w W g eb ((acc ++ [x]) ++ xs)) := fun W h => by
              have : (acc ++ [x]) ++ xs = acc ++ x :: xs := by simp
              rw [this]; exact h
            have LS := Lib.hid LST
            have zi3 : (i2 : Int) ≤ (k : Int) := by omega
            have zk4 : k - i2 < k - i := by omega
            clear HT hx hx' hil td hc NML hnm hv DEL hp hcc LST
            go_wp2_with (first | (go_at_call 21; go_must (refine (CUT.out _).mono ?_); rintro e w4 ⟨rfl, hq⟩; have IV' := Lib.hid (IV.out.below (bel_drewN hq)); clear hq IV; have e0 := IV'.out.e0; have e1 := IV'.out.e1) | (go_at_call 20; go_must (refine (CMP.out _).mono ?_); rintro e w5 ⟨rfl, hq⟩; have IV3 := Lib.hid (IV'.out.below hq); clear hq IV' e0 e1))
            have IV2 := LS.out _ IV3
            clear IV3 CUT LS
            go_roundg (k - i2)
            case measure => omega
            case rel => exact ⟨acc ++ [x], xs, nm, k, i2, rfl, rfl, by go_num, zi3, hkn, Nat.le_refl _, HK2, HI2, TD2, HB3, IV2⟩
end Go.Proofs.YtmbjhfkpmgkkbaaGreatDoor
