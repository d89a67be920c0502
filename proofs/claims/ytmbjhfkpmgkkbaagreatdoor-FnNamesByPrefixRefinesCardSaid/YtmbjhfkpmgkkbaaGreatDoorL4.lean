/-
  The walk of FnNamesByPrefixRefines. Conditions: those in each theorem.
-/
import Derived.Test.YtmbjhfkpmgkkbaaGreatDoorL3
namespace Go.Proofs.YtmbjhfkpmgkkbaaGreatDoor
set_option linter.unusedVariables false
open Go.Shelf Go.RowKit Go.Lib Go.Sort

/-- the names that begin with b, of those read so far -/
def filt (b : List UInt8) (T : List (List UInt8)) : List (List UInt8) := T.filter (fun x => b.isPrefixOf x)
theorem filt_hit {b : List UInt8} {T : List (List UInt8)} {k : Nat} {x : List UInt8} (hk : k < T.length) (hx : x = T[k]) (h : b.isPrefixOf x = true) : filt b (T.take (k + 1)) = filt b (T.take k) ++ [x] := by
  subst hx
  unfold filt
  rw [List.take_succ_eq_append_getElem hk, List.filter_append, List.filter_cons, h, if_pos rfl, List.filter_nil]
theorem filt_miss {b : List UInt8} {T : List (List UInt8)} {k : Nat} {x : List UInt8} (hk : k < T.length) (hx : x = T[k]) (h : b.isPrefixOf x = false) : filt b (T.take (k + 1)) = filt b (T.take k) := by
  subst hx
  unfold filt
  rw [List.take_succ_eq_append_getElem hk, List.filter_append, List.filter_cons, h, if_neg Bool.false_ne_true, List.filter_nil, List.append_nil]
theorem getD_bytes {T : List (List UInt8)} {k : Nat} (hk : k < T.length) : (T.map fun x => (⟨x.toArray⟩ : ByteArray)).getD k ByteArray.empty = ⟨T[k].toArray⟩ := by
  simp [List.getD, hk]
/-- the filter's state -/
structure Ft (B : Nat) (b : List UInt8) (T O : List (List UInt8)) (v : Value) (w wr : World) : Prop where
  eq : O = filt b T
  own : wr.ownsRow B 9 1 v O.length (O.map encStr)
  below : Below B w wr
theorem named_small {R : List (List UInt8)} {p x : List UInt8} (h : ∀ y ∈ R, y.length ≤ 1073741824) (hx : x ∈ Nbp.named R p) : x.length ≤ 1073741824 := by
  unfold Nbp.named at hx
  have h1 := (List.mergeSort_perm _ _).mem_iff.1 hx
  obtain ⟨y, hy, rfl⟩ := List.mem_map.1 (List.mem_filter.1 h1).1
  refine Nat.le_trans ?_ (h y hy)
  unfold Envp.nameOf
  exact List.length_take_le' _ _

set_option maxRecDepth 100000 in
set_option maxHeartbeats 8000000 in
theorem law4 (a : Option Addr) (c : Nat) (P : List ByteArray) (q r : ByteArray) (w : World) (hv : Texts w (.slice a P.length c) P) :
    Calls Tryz.prog 4 #[.slice a P.length c, .string q, .string r] w fun e w' => e = .returned (.bool true) ∧ Below w.heap.size w w' := by
  obtain ⟨i9, hi9, hz9, hs9, hb9⟩ := inf9z
  have B12 := Lib.hid (bytes12 a c P q r w (texts_cells hv))
  have HV := Lib.hid hv
  clear hv
  go_enter Tryz.func4, Tryz.ntmps4
  by_cases hl : (4096 : Int) < (P.length : Int)
  · go_wp2_with (first | (go_at_call 12; go_must (refine B12.out.mono ?_); rintro e w' ⟨⟨b, rfl, hb⟩, rfl⟩; have HB := Lib.hid hb; clear hb B12))
    all_goals (go_ret; exact ⟨rfl, Below.refl _ _⟩)
  go_wp2_with (first | (go_at_call 12; go_must (refine B12.out.mono ?_); rintro e w' ⟨⟨b, rfl, hb⟩, rfl⟩; have HB := Lib.hid hb; clear hb B12))
  · go_ret; exact ⟨rfl, Below.refl _ _⟩
  have hb1 : (!b) = false := by assumption
  have hS := HB.out (by simpa using hb1)
  have HS := Lib.hid hS.1
  have hq : q.size ≤ 1048576 := hS.2.1
  have hr : r.size ≤ 1048576 := hS.2.2
  clear HB hb1 hS
  refine (sum6 a c P w HS.out (by omega) (texts_cells HV.out)).mono ?_
  rintro e w' ⟨⟨n, rfl, hnb⟩, rfl⟩
  by_cases hsum : (1048576 : Int) < (n : Int) + 2 * (q.size : Int) + (r.size : Int)
  · go_wp2
    go_ret
    exact ⟨rfl, Below.refl _ _⟩
  have hn : (P.length : Int) ≤ 1048576 := by have := HS.out.1; omega
  go_wp2_with (fail)
  refine (copy7 _ P w HV.out HS.out.1).mono ?_
  rintro e w1 ⟨⟨v', rfl, hT⟩, hB1⟩
  have ⟨a', c', hv', _⟩ := hT
  subst hv'
  have HT := Lib.hid hT
  have HB1 := Lib.hid hB1
  clear hT hB1 HV
  have C8 := Lib.hid (cfg8 _ P w1 HT.out (fun s hs => by have := small_mem HS.out s hs; omega) HS.out.1)
  go_wp2_with (fail)
  refine C8.out.mono ?_
  intro e w2 hC
  obtain ⟨g, R, rfl, hE, hB2, hN⟩ := cfg_names hC HS.out
  have HB2 := Lib.hid (HB1.out.trans (hB2.mono HB1.out.size))
  have HE := Lib.hid hE
  have HN := Lib.hid hN
  have hRl : R.length ≤ 1048576 := (env_good HS.out hE).2.2
  have HRB := Lib.hid (env_good HS.out hE).2.1
  clear hC hE hB2 hN C8 HT HB1
  have N9 := Lib.hid (HN.out q w2 (Below.refl _ _))
  go_wp2_with (fail)
  refine N9.out.mono ?_
  rintro e w3 ⟨v3, rfl, hT3, _, hB3⟩
  have HT3 := Lib.hid hT3
  have N9b := Lib.hid (HN.out (q ++ r) w3 hB3)
  have HB3 := Lib.hid (HB2.out.trans (hB3.mono HB2.out.size))
  clear hT3 hB3 HN N9 HB2
  go_wp2_with (fail)
  refine N9b.out.mono ?_
  rintro e w4 ⟨v4, rfl, hT4, _, hB4⟩
  obtain ⟨bb, hbb⟩ : ∃ x, x = q ++ r := ⟨_, rfl⟩
  rw [← hbb]
  have hbl : bb.data.toList = q.data.toList ++ r.data.toList := by rw [hbb]; simp
  rw [← hbb, hbl] at hT4
  have hT3 := texts_below HT3.out hB4
  obtain ⟨S, hS⟩ : ∃ S, S = Nbp.named R q.data.toList := ⟨_, rfl⟩
  obtain ⟨T, hT⟩ : ∃ T, T = Nbp.named R (q.data.toList ++ r.data.toList) := ⟨_, rfl⟩
  have HST : Hid (filt bb.data.toList S = T) := Lib.hid (by rw [hS, hT, hbl]; exact Nbp.named_app HE.out _ _)
  have HSM : Hid (∀ x ∈ S, x.length ≤ 1073741824) := Lib.hid (fun x hx => named_small HRB.out (hS ▸ hx))
  have HTI : Hid (Nbp.inc T) := Lib.hid (by rw [hT]; exact Nbp.named_inc HE.out _)
  have hSl : (S.length : Int) ≤ 1048576 := by have := names_length HE.out q.data.toList; rw [← hS] at this; omega
  have hTl : (T.length : Int) ≤ 1048576 := by have := names_length HE.out (q.data.toList ++ r.data.toList); rw [← hT] at this; omega
  rw [← hS] at hT3
  rw [← hT] at hT4
  have HB4 := Lib.hid (HB3.out.trans (hB4.mono HB3.out.size))
  have HB34 := Lib.hid hB4.size
  clear hS hT hbl hbb N9b HT3 hB4 HE HRB HB3
  have ⟨a3, c3, hv3, _⟩ := hT3
  have ⟨a4, c4, hv4, _⟩ := hT4
  subst hv3 hv4
  rw [List.length_map] at hT3 hT4 ⊢
  rw [List.length_map]
  have HT3 := Lib.hid hT3
  have HT4 := Lib.hid hT4
  clear hT3 hT4
  have F0 : Hid (Ft w4.heap.size bb.data.toList (S.take 0) [] (.slice none 0 0) w4 w4) := Lib.hid ⟨rfl, World.ownsRow_nil _ _ _ _, Below.refl _ _⟩
  go_wp2
  go_loopg [11, 12] (S.length) (fun g v11 v12 wr => ∃ (O : List (List UInt8)) (k : Nat), v12 = .int .i64 k ∧ (k : Int) ≤ (S.length : Int) ∧ S.length - k ≤ g ∧ (O.length : Int) ≤ (k : Int) ∧ Hid (Ft w4.heap.size bb.data.toList (S.take k) O v11 w4 wr))
  case atStart => exact ⟨[], 0, rfl, by omega, by omega, by simp, F0⟩
  case round =>
    clear F0
    obtain ⟨O, k, rfl, hk, hg, hOk, ST⟩ := hrel
    by_cases hlt : (k : Int) < (S.length : Int)
    · have hkn : k < S.length := by omega
      obtain ⟨b3, off, rfl, hcell⟩ := texts_cells (P := S.map fun x => ⟨x.toArray⟩) (by rw [List.length_map]; exact texts_below HT3.out ST.out.below) (by intro h; rw [List.map_eq_nil_iff] at h; subst h; simp at hkn)
      have hx := hcell k (by rw [List.length_map]; exact hkn)
      rw [getD_bytes hkn] at hx
      have HX := Lib.hid (rfl : S[k] = S[k])
      obtain ⟨x, hxp⟩ : ∃ x : ByteArray, x = ⟨S[k].toArray⟩ := ⟨_, rfl⟩
      rw [← hxp] at hx
      have hxl : x.data.toList = S[k] := by rw [hxp]
      have CL3 : Hid (∀ wr', Below wr.heap.size wr wr' → wr'.cell? ⟨b3, off + k, none⟩ = some (.string x)) := Lib.hid (fun wr' hb => by
        obtain ⟨b3', off', h3, hcell'⟩ := texts_cells (P := S.map fun x => ⟨x.toArray⟩) (by rw [List.length_map]; exact texts_below HT3.out (ST.out.below.trans (hb.mono ST.out.below.size))) (by intro h; rw [List.map_eq_nil_iff] at h; subst h; simp at hkn)
        cases h3
        have := hcell' k (by rw [List.length_map]; exact hkn)
        rw [getD_bytes hkn, ← hxp] at this
        exact this)
      have hxs : x.size ≤ 1073741824 := by
        have h1 := HSM.out S[k] (List.getElem_mem hkn)
        rw [← hxl, Array.length_toList] at h1
        exact h1
      have hxe : Value.string x = encStr S[k] := by rw [hxp]
      have HXE := Lib.hid (And.intro hxl hxe)
      have PR := Lib.hid (fun W r hr => pre13 x bb W r hr hxs)
      clear hcell hxp hxl hxe HX
      cases hpre : bb.data.toList.isPrefixOf x.data.toList with
      | false =>
        have PF := Lib.hid (fun W => PR.out W false (Lib.hid hpre))
        have ST2 : Hid (∀ wr', Below wr.heap.size wr wr' → Ft w4.heap.size bb.data.toList (S.take (k + 1)) O u11 w4 wr') := Lib.hid (fun wr' hb => by
          refine ⟨?_, own_below ST.out.own hb, ST.out.below.trans (hb.mono ST.out.below.size)⟩
          rw [filt_miss hkn HXE.out.1 hpre]; exact ST.out.eq)
        clear hpre PR
        go_wp2_with (go_at_call 13; refine (PF.out _).mono ?_; rintro e w5 ⟨rfl, hb⟩; have ST3 := Lib.hid (ST2.out _ hb); clear hb ST2)
        go_roundg (S.length - (k + 1))
        case measure => omega
        case rel => exact ⟨O, k + 1, by go_num, by omega, Nat.le_refl _, by omega, ST3⟩
      | true =>
        have PF := Lib.hid (fun W => PR.out W true (Lib.hid hpre))
        have ST2 : Hid (∀ wr', Below wr.heap.size wr wr' → wr'.ownsRow w4.heap.size 9 1 u11 O.length (O.map encStr) ∧ Below w4.heap.size w4 wr' ∧ wr'.cell? ⟨b3, off + k, none⟩ = some (.string x)) := Lib.hid (fun wr' hb => ⟨own_below ST.out.own hb, ST.out.below.trans (hb.mono ST.out.below.size), CL3.out _ hb⟩)
        have HEQ : Hid (O ++ [S[k]] = filt bb.data.toList (S.take (k + 1))) := Lib.hid (by
          rw [filt_hit hkn rfl (by rw [← HXE.out.1]; exact hpre), ← ST.out.eq])
        have hOb : (O.length : Int) ≤ 1048576 := by omega
        clear hpre PR
        go_wp2_with (first
          | (go_at_call 13; refine (PF.out _).mono ?_; rintro e w5 ⟨rfl, hb⟩; have ST3 := Lib.hid (ST2.out _ hb); have hx5 := ST3.out.2.2; clear hb ST2 ST)
          | (at_builtin; refine wpList_append_own _ rfl _ _ 22 rfl w4.heap.size 9 i9 (.string ⟨#[]⟩) 1 16 Tryz.underlying22 hi9 hz9 hs9 hb9 rfl (by decide) _ _ _ rfl (ST3.out.1.alloc _) ⟨w5.heap.size, 0, none⟩ 1 1 [.string x] rfl rfl (cell_one_new _ _ _) (by simp [Value.oneCell']) (by unfold maxLen; omega) (by omega) (by have := ST3.out.2.1.size; simp; omega) ?_))
        intro v1 w6 hown1 hgrow1 _
        have BB : Hid (Below w4.heap.size w4 w6) := Lib.hid ((ST3.out.2.1.alloc ST3.out.2.1.size _).grown hgrow1 (by have := ST3.out.2.1.size; simp; omega) (fun j e => (ST3.out.1.lt _ e).1))
        have FF : Hid (Ft w4.heap.size bb.data.toList (S.take (k + 1)) (O ++ [S[k]]) v1 w4 w6) := Lib.hid ⟨HEQ.out, by rw [List.length_append, List.map_append, List.map_cons, List.map_nil, ← HXE.out.2]; exact hown1, BB.out⟩
        have hOl2 : ((O ++ [S[k]]).length : Int) ≤ ((k + 1 : Nat) : Int) := by simp; omega
        generalize O ++ [S[k]] = O2 at FF hOl2
        clear hown1 hgrow1 BB HEQ ST3 PF HXE hx5
        go_wp2
        go_roundg (S.length - (k + 1))
        case measure => omega
        case rel => exact ⟨O2, k + 1, by go_num, by omega, Nat.le_refl _, hOl2, FF⟩
    · have hkk : k = S.length := by omega
      have FE := ST.out
      rw [hkk, List.take_length] at FE
      have hOT : O = T := FE.eq.trans HST.out
      have hown := FE.own
      rw [hOT] at hown
      have hT4 := texts_below HT4.out FE.below
      have hTO := texts_own hown
      have ⟨ao, co, hvo, _⟩ := hTO
      subst hvo
      rw [List.length_map] at hTO ⊢
      have HB6 := Lib.hid (HB4.out.trans (FE.below.mono HB4.out.size))
      obtain ⟨TB, hTB⟩ : ∃ TB : List ByteArray, TB = T.map fun x => ⟨x.toArray⟩ := ⟨_, rfl⟩
      have hTBl : TB.length = T.length := by rw [hTB]; simp
      rw [← hTB, ← hTBl] at hT4 hTO
      have HE11 : Hid (∀ n, Calls Tryz.prog 11 #[.slice a4 T.length c4, .slice ao T.length co] (wr.drewN n) fun e w' => e = .returned (.bool true) ∧ ∃ m, w' = (wr.drewN n).drewN m) := Lib.hid (fun n => by
        have := eq11 a4 ao c4 co TB (wr.drewN n) (by omega) (texts_below hT4 (bel_drewN ⟨n, rfl⟩)) (texts_below hTO (bel_drewN ⟨n, rfl⟩))
        rw [hTBl] at this; exact this)
      have HCC : Hid (∀ j (h : j < T.length), ∃ b off, a4 = some ⟨b, off, none⟩ ∧ wr.cell? ⟨b, off + j, none⟩ = some (.string ⟨T[j].toArray⟩)) := Lib.hid (fun j h => by
        obtain ⟨b, off, h1, h2⟩ := texts_cells hT4 (by intro e; rw [e] at hTBl; simp at hTBl; omega)
        refine ⟨b, off, h1, ?_⟩
        rw [h2 j (by omega), hTB, getD_bytes h])
      clear hT4 hTO hTB hTBl FE hown hOT ST HSM HST HT3 HT4 HB4 hkk
      go_wp2
      go_loopg [13] (T.length) (fun g v13 wr2 => ∃ k : Nat, v13 = .int .i64 k ∧ (1 : Int) ≤ (k : Int) ∧ T.length - k ≤ g ∧ Hid (∃ n, wr2 = wr.drewN n))
      case atStart => exact ⟨1, rfl, by omega, by omega, Lib.hid ⟨0, rfl⟩⟩
      case round =>
        obtain ⟨k2, rfl, hk2, hg2, DR⟩ := hrel
        obtain ⟨n2, rfl⟩ := DR.out
        clear DR
        by_cases hlt2 : (k2 : Int) < (T.length : Int)
        · obtain ⟨m, hm⟩ : ∃ m, m + 1 = k2 := ⟨k2 - 1, by omega⟩
          obtain ⟨b4, off4, rfl, hy2⟩ := HCC.out k2 (by omega)
          obtain ⟨b4', off4', h4, hy1⟩ := HCC.out m (by omega)
          cases h4
          have hord := List.pairwise_iff_getElem.1 HTI.out m k2 (by omega) (by omega) (by omega)
          obtain ⟨y1, hy1e⟩ : ∃ y : ByteArray, y = ⟨T[m].toArray⟩ := ⟨_, rfl⟩
          obtain ⟨y2, hy2e⟩ : ∃ y : ByteArray, y = ⟨T[k2].toArray⟩ := ⟨_, rfl⟩
          rw [← hy1e] at hy1
          rw [← hy2e] at hy2
          have hbl : Op.bytesLess y1.toList y2.toList = true := by
            rw [bytesLess_eq, Lib.toList_data, Lib.toList_data, hy1e, hy2e]; exact decide_eq_true hord
          have zm1 : (k2 : Int) - 1 = (m : Int) := by omega
          have p1 : (0 : Int) ≤ (m : Int) := by omega
          have p2 : (m : Int) < (T.length : Int) := by omega
          have HM1 := Lib.hid hm
          clear hm hord hy1e hy2e
          go_wp2
          go_region
          go_wp2
          have hm2 := HM1.out
          go_roundg (T.length - (k2 + 1))
          case measure => omega
          case rel => exact ⟨k2 + 1, by go_num, by omega, Nat.le_refl _, Lib.hid ⟨n2 + 1, rfl⟩⟩
        · go_wp2_with (fail)
          refine (HE11.out n2).mono ?_
          rintro e w5 ⟨rfl, m, rfl⟩
          go_wp2_with (fail)
          go_ret
          exact ⟨rfl, HB6.out.trans ((bel_drewN (w := wr) ⟨n2 + m, rfl⟩).mono HB6.out.size)⟩
end Go.Proofs.YtmbjhfkpmgkkbaaGreatDoor
