/-
  The walk of FnEnvGetAfterAppend. Conditions: those in each theorem.
-/
import Derived.Test.YthihppocokkoiaaDoorLwM
import Derived.Test.YthihppocokkoiaaDoorLwK
namespace Go.Proofs.YthihppocokkoiaaDoor
set_option linter.unusedVariables false
open Go.Shelf Go.RowKit Go.Lib Go.Sort

theorem ext_val (q x : List UInt8) (k : Nat) (hk : k = q.length) : (⟨(q ++ 61 :: x).toArray⟩ : ByteArray).extract (k + 1) (⟨(q ++ 61 :: x).toArray⟩ : ByteArray).size = ⟨x.toArray⟩ := by
  subst hk
  apply ByteArray.ext
  rw [ByteArray.data_extract]
  apply Array.toList_inj.1
  rw [Array.toList_extract, List.extract_eq_take_drop]
  have e : (q ++ 61 :: x).drop (q.length + 1) = x := by
    rw [show q ++ 61 :: x = (q ++ [61]) ++ x by simp, List.drop_left' (by simp)]
  show List.take _ ((q ++ 61 :: x).drop (q.length + 1)) = x
  rw [e]
  exact List.take_of_length_le (by simp [ByteArray.size]; omega)

/-- what the two environments answer -/
theorem two_looks (P : List ByteArray) (q x y : ByteArray) (hq : 61 ∉ q.data.toList) (hne : q.data.toList ≠ []) :
    ((P ++ [q ++ { data := #[61] } ++ x]).map (·.data.toList)) = P.map (·.data.toList) ++ [q.data.toList ++ 61 :: x.data.toList] ∧
    ansText (Envp.look (P.map (·.data.toList) ++ [q.data.toList ++ 61 :: x.data.toList]) q.data.toList) q.size = x ∧
    (y.data.toList ≠ q.data.toList → Envp.look (P.map (·.data.toList) ++ [q.data.toList ++ 61 :: x.data.toList]) y.data.toList = Envp.look (P.map (·.data.toList)) y.data.toList) := by
  refine ⟨by simp, ?_, fun h => ?_⟩
  · rw [Envp.look_app _ hq hne, if_pos (by simp)]
    show (⟨_⟩ : ByteArray).extract _ _ = _
    rw [ext_val _ _ _ (by simp)]
  · rw [Envp.look_app _ hq hne, if_neg (by simpa using fun e => h (by rw [e]))]

set_option maxRecDepth 20000 in
set_option maxHeartbeats 8000000 in
theorem law9 (a : Option Addr) (c : Nat) (P : List ByteArray) (q x y : ByteArray) (w : World) (hv : Texts w (.slice a P.length c) P) :
    Calls Tryd.prog 9 #[.slice a P.length c, .string q, .string x, .string y] w fun e w' => e = .returned (.bool true) ∧ Below w.heap.size w w' := by
  have B49 := Lib.hid (bytes49 a c P q x y w (texts_cells hv))
  have HV := Lib.hid hv
  clear hv
  go_enter Tryd.func9, Tryd.ntmps9
  by_cases hl : (4096 : Int) < (P.length : Int)
  · go_wp2_with (first | (go_at_call 49; go_must (refine B49.out.mono ?_); rintro e w' ⟨⟨b, rfl, hb⟩, rfl⟩; have HB := Lib.hid hb; clear hb B49))
    all_goals (go_ret; exact ⟨rfl, Below.refl _ _⟩)
  go_wp2_with (first | (go_at_call 49; go_must (refine B49.out.mono ?_); rintro e w' ⟨⟨b, rfl, hb⟩, rfl⟩; have HB := Lib.hid hb; clear hb B49))
  · go_ret; exact ⟨rfl, Below.refl _ _⟩
  have hb1 : (!b) = false := by assumption
  have hS := HB.out (by simpa using hb1)
  have HS := Lib.hid hS.1
  have hq : q.size ≤ 1048576 := hS.2.1
  have hx : x.size ≤ 1048576 := hS.2.2.1
  have hy : y.size ≤ 1048576 := hS.2.2.2
  clear HB hb1 hS
  refine (sum25 a c P w HS.out (by omega) (texts_cells HV.out)).mono ?_
  rintro e w' ⟨⟨n, rfl, hnb⟩, rfl⟩
  go_wp2_with (first | (go_at_call 26; go_must (refine (eq26 _ w (by omega)).mono ?_); rintro e w' ⟨rfl, rfl⟩))
  all_goals (try (go_ret; exact ⟨rfl, Below.refl _ _⟩))
  have hneg : Envp.eqAt q.data.toList < 0 := by assumption
  have hnegb : Envp.eqAt y.data.toList < 0 := by
    have hh : (q.toList.isEmpty = false ∧ Envp.eqAt q.data.toList < 0) ∧ Envp.eqAt y.data.toList < 0 := by assumption
    exact hh.2
  have hqe : ¬ q.toList = [] := by assumption
  have H61 := Lib.hid (eqAt_neg hneg)
  have H61y := Lib.hid (eqAt_neg hnegb)
  have HQE := Lib.hid hqe
  clear hneg hnegb
  have hn : (P.length : Int) ≤ 1048576 := by have := HS.out.1; omega
  refine (copy27 _ P w HV.out HS.out.1).mono ?_
  rintro e w1 ⟨⟨v', rfl, hT⟩, hB1⟩
  obtain ⟨a', c', hv', hc'⟩ := hT
  subst hv'
  have HC := Lib.hid hc'
  have HT : Hid (Texts w1 (.slice a' P.length c') P) := Lib.hid ⟨a', c', rfl, hc'⟩
  have HB1 := Lib.hid hB1
  clear hc' hB1 HV
  have hw1 : w.heap.size ≤ w1.heap.size := HB1.out.size
  obtain ⟨cs, hcs, hmk⟩ := make22 w1 (P.length + 1) (by omega)
  have e1 : ((P.length + 1 : Nat) : Int) = (P.length : Int) + 1 := by omega
  rw [e1] at hmk
  have M0 : Hid (MoreAt P w1 w1.heap.size 0 cs (w1.alloc (.cells cs 9))) := Lib.hid ⟨hcs, by show (w1.heap.push _)[w1.heap.size]? = _; exact Array.getElem?_push_size, fun j hj => by omega, (Below.refl _ _).alloc (Nat.le_refl _) _⟩
  generalize hW : w1.alloc (.cells cs 9) = W1 at *
  clear hW
  go_wp2
  go_loopg [10] (P.length) (fun g v10 wr => ∃ (k : Nat) (ck : Array Value), v10 = .int .i64 k ∧ (k : Int) ≤ (P.length : Int) ∧ P.length - k ≤ g ∧ Hid (MoreAt P w1 w1.heap.size k ck wr))
  case atStart => exact ⟨0, cs, rfl, by omega, by omega, M0⟩
  case round =>
    clear M0 hmk
    obtain ⟨k, ck, rfl, hk, hg, CK⟩ := hrel
    by_cases hlt : (k : Int) < (P.length : Int)
    · have hkn : k < P.length := by omega
      obtain ⟨bb, off, hxx, hbb, hcell⟩ := HC.out (by rintro rfl; simp at hkn)
      cases hxx
      have hx := hcell k hkn
      rw [← World.cell?_of_block (w := w1) (w' := wr) (a := ⟨bb, off + k, none⟩) (CK.out.below.block bb hbb)] at hx
      have hkc : k < ck.size := by rw [CK.out.size]; omega
      have hyc : wr.cell? ⟨w1.heap.size, k, none⟩ = some ck[k] := cell_heap CK.out.heap k _ (Array.getElem?_eq_getElem hkc)
      have hf : wr.frozen? ⟨w1.heap.size, k, none⟩ = false := frozen_heap CK.out.heap k
      have C2 := Lib.hid (CK.out.step hkn)
      generalize hp : P.getD k ByteArray.empty = p at hx C2
      generalize ck.setIfInBounds k (.string p) = ck2 at C2
      generalize ck[k] = old at hyc
      have hk1 : (k : Int) < (P.length : Int) + 1 := by omega
      clear hcell hp CK hkc
      go_wp2
      go_roundg (P.length - (k + 1))
      case measure => omega
      case rel => exact ⟨k + 1, ck2, by go_num, by omega, Nat.le_refl _, (by first | exact C2 | exact Lib.hid C2.out.drew)⟩
    · have hkk : k = P.length := by omega
      subst hkk
      have hkc : P.length < ck.size := by rw [CK.out.size]; omega
      have hyc : wr.cell? ⟨w1.heap.size, P.length, none⟩ = some ck[P.length] := cell_heap CK.out.heap P.length _ (Array.getElem?_eq_getElem hkc)
      have hf : wr.frozen? ⟨w1.heap.size, P.length, none⟩ = false := frozen_heap CK.out.heap P.length
      have TX := Lib.hid (CK.out.last (q ++ { data := #[61] } ++ x))
      generalize ck[P.length] = old at hyc
      have hk1 : (P.length : Int) < (P.length : Int) + 1 := by omega
      obtain ⟨l1, l2, l3⟩ := two_looks P q x y H61.out (by have := HQE.out; rw [ByteArray.toList_eq] at this; exact this)
      have L2 := Lib.hid l2
      have L3 := Lib.hid l3
      have szs : ∀ s ∈ P ++ [q ++ { data := #[61] } ++ x], s.size ≤ 1073741824 := by
        intro s hs
        rcases List.mem_append.1 hs with h | h
        · have := small_mem HS.out s h; omega
        · rw [List.mem_singleton.1 h]; simp; have e : (({ data := #[61] } : ByteArray)).size = 1 := rfl
          omega
      have szl : ∀ z ∈ (P ++ [q ++ { data := #[61] } ++ x]).map (·.data.toList), z.length ≤ 1073741824 := by
        intro z hz
        obtain ⟨s, hs, rfl⟩ := List.mem_map.1 hz
        have := szs s hs
        rw [Array.length_toList]; exact this
      have szp : ∀ z ∈ P.map (·.data.toList), z.length ≤ 1073741824 := fun z hz => by
        obtain ⟨s, hs, rfl⟩ := List.mem_map.1 hz
        have := small_mem HS.out s hs
        rw [Array.length_toList]; show s.size ≤ _; omega
      have C1 := Lib.hid fun (W : World) (hB : Below w1.heap.size w1 W) => cfg28 (.slice a' P.length c') P W (texts_below HT.out hB) (fun s hs => by have := small_mem HS.out s hs; omega) (by omega)
      have C2 := Lib.hid fun (W0 W : World) (hT : Texts W0 (.slice (some ⟨w1.heap.size, 0, none⟩) (P.length + 1) (P.length + 1)) (P ++ [q ++ { data := #[61] } ++ x])) (hB : Below W0.heap.size W0 W) => cfg28 _ _ W (texts_below hT hB) szs (by simp; omega)
      have GP := Lib.hid fun (e : Ending) (W0 W : World) (h : CfgOut W0 (P.map (·.data.toList)) e W) => cfg_get h szp (by simp; omega)
      have GM := Lib.hid fun (e : Ending) (W0 W : World) (h : CfgOut W0 ((P ++ [q ++ { data := #[61] } ++ x]).map (·.data.toList)) e W) => cfg_get h szl (by simp; omega)
      rw [l1] at GM
      have L1 := Lib.hid l1
      have hg1 : w1.heap.size ≤ (wr.setCell ⟨w1.heap.size, P.length, none⟩ (.string (q ++ { data := #[61] } ++ x))).heap.size := TX.out.2.size
      have HG1 := Lib.hid hg1
      clear CK hkc hlt l1 l2 l3 szs szl szp hg1
      go_wp2_with (go_at_call 28; refine (C1.out _ TX.out.2).mono ?_; rintro e W3 h3; obtain ⟨g1, rfl, hb3, hG1⟩ := GP.out _ _ _ h3; have B3 := Lib.hid hb3; have G1 := Lib.hid hG1; clear h3 hb3 hG1)
      go_wp2_with (go_at_call 28; refine (C2.out _ _ TX.out.1 B3.out).mono ?_; rintro e W4 h4; rw [L1.out] at h4; obtain ⟨g2, rfl, hb4, hG2⟩ := GM.out _ _ _ h4; have B4 := Lib.hid hb4; have G2 := Lib.hid hG2; clear h4 hb4 hG2)
      have R1 := Lib.hid (G2.out q W4 hq H61.out (Below.refl _ _))
      rw [L2.out] at R1
      have qx : (x.toList == x.toList) = true := by simp
      have BW4 : Hid (Below w.heap.size w W4) := Lib.hid (((HB1.out.trans (TX.out.2.mono hw1)).trans (B3.out.mono (Nat.le_trans hw1 HG1.out))).trans (B4.out.mono (Nat.le_trans (Nat.le_trans hw1 HG1.out) B3.out.size)))
      by_cases hyq : y.data.toList = q.data.toList
      · have qy : (y.toList == q.toList) = true := by simp [ByteArray.toList_eq, hyq]
        go_wp2_with (go_at_call 29; refine R1.out.mono ?_; rintro e W5 ⟨rfl, hb5⟩; have B5 := Lib.hid hb5; clear hb5 R1)
        go_ret
        exact ⟨rfl, BW4.out.trans (B5.out.mono BW4.out.size)⟩
      · have qy : (y.toList == q.toList) = false := by simpa [ByteArray.toList_eq] using hyq
        have L3' := Lib.hid (L3.out hyq)
        obtain ⟨zs, hzs⟩ : ∃ zs, zs = ansText (Envp.look (P.map (·.data.toList)) y.data.toList) y.size := ⟨_, rfl⟩
        have HZ := Lib.hid hzs
        have qz : (zs.toList == zs.toList) = true := by simp
        clear hzs hyq L3
        go_wp2_with (go_at_call 29; refine R1.out.mono ?_; rintro e W5 ⟨rfl, hb5⟩; have B5 := Lib.hid hb5; clear hb5 R1)
        have R2 := Lib.hid (G2.out y W5 hy H61y.out B5.out)
        rw [L3'.out, ← HZ.out] at R2
        go_wp2_with (go_at_call 29; refine R2.out.mono ?_; rintro e W6 ⟨rfl, hb6⟩; have B6 := Lib.hid hb6; clear hb6 R2)
        have B36 : Hid (Below W3.heap.size W3 W6) := Lib.hid ((B4.out.trans (B5.out.mono B4.out.size)).trans (B6.out.mono (Nat.le_trans B4.out.size B5.out.size)))
        have R3 := Lib.hid (G1.out y W6 hy H61y.out B36.out)
        rw [← HZ.out] at R3
        go_wp2_with (go_at_call 29; refine R3.out.mono ?_; rintro e W7 ⟨rfl, hb7⟩; have B7 := Lib.hid hb7; clear hb7 R3)
        go_ret
        have s4 := BW4.out.size
        have s5 := B5.out.size
        have s6 := B6.out.size
        exact ⟨rfl, ((BW4.out.trans (B5.out.mono s4)).trans (B6.out.mono (Nat.le_trans s4 s5))).trans (B7.out.mono (Nat.le_trans (Nat.le_trans s4 s5) s6))⟩
end Go.Proofs.YthihppocokkoiaaDoor
