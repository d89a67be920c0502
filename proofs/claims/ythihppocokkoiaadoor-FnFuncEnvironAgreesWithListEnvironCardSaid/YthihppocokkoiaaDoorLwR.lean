/-
  The table's plain law, and the walks of zzTable.lookup, FuncEnviron and the function environment's Get (written by genR.py). Conditions: those in each theorem.
-/
import Derived.Test.YthihppocokkoiaaDoorLwQ
namespace Go.Proofs.YthihppocokkoiaaDoor
set_option linter.unusedVariables false
open Go.Shelf Go.RowKit Go.Lib Go.Sort

/-- the first k pairs 'name=value' of a table -/
def pairsOf (N V : List ByteArray) (k : Nat) : List ByteArray := (List.range k).map fun j => N.getD j ByteArray.empty ++ { data := #[61] } ++ V.getD j ByteArray.empty
theorem pairs_length (N V : List ByteArray) (k : Nat) : (pairsOf N V k).length = k := by unfold pairsOf; simp
theorem pairs_snoc (N V : List ByteArray) (k : Nat) : pairsOf N V (k + 1) = pairsOf N V k ++ [N.getD k ByteArray.empty ++ { data := #[61] } ++ V.getD k ByteArray.empty] := by
  unfold pairsOf; rw [List.range_succ, List.map_append]; rfl
theorem pairs_getD (N V : List ByteArray) (k j : Nat) (h : j < k) : (pairsOf N V k).getD j ByteArray.empty = N.getD j ByteArray.empty ++ { data := #[61] } ++ V.getD j ByteArray.empty := by
  unfold pairsOf
  simp [List.getD, h]
/-- a table's row is as the law wants it -/
def RowOk (N V : List ByteArray) (j : Nat) : Prop := (N.getD j ByteArray.empty).data.toList ≠ [] ∧ NoEq (N.getD j ByteArray.empty) ∧ (V.getD j ByteArray.empty).data.toList ≠ []
theorem look_step2 {N V : List ByteArray} (q : ByteArray) {k : Nat} (h : RowOk N V k) : Envp.look ((pairsOf N V (k + 1)).map (·.data.toList)) q.data.toList = if ((N.getD k ByteArray.empty).toList == q.toList) = true then some ((N.getD k ByteArray.empty).data.toList ++ 61 :: (V.getD k ByteArray.empty).data.toList) else Envp.look ((pairsOf N V k).map (·.data.toList)) q.data.toList := by
  rw [pairs_snoc, List.map_append]
  have e : ([N.getD k ByteArray.empty ++ { data := #[61] } ++ V.getD k ByteArray.empty].map (·.data.toList)) = [(N.getD k ByteArray.empty).data.toList ++ 61 :: (V.getD k ByteArray.empty).data.toList] := by simp
  rw [e, Envp.look_app _ h.2.1 h.1, ByteArray.toList_eq, ByteArray.toList_eq]
theorem ans_step {N V : List ByteArray} (q : ByteArray) {k : Nat} (h : RowOk N V k) : ansText (Envp.look ((pairsOf N V (k + 1)).map (·.data.toList)) q.data.toList) q.size = if ((N.getD k ByteArray.empty).toList == q.toList) = true then V.getD k ByteArray.empty else ansText (Envp.look ((pairsOf N V k).map (·.data.toList)) q.data.toList) q.size := by
  rw [look_step2 q h]
  split
  · rename_i hc
    rw [ByteArray.toList_eq, ByteArray.toList_eq, beq_iff_eq] at hc
    show (⟨_⟩ : ByteArray).extract _ _ = _
    rw [ext_val _ _ _ (by rw [hc]; simp)]
  · rfl
/-- with non-empty values, no answer's text is empty unless there is none -/
theorem ans_ne {N V : List ByteArray} (q : ByteArray) : ∀ k, (∀ j, j < k → RowOk N V j) → ∀ x, Envp.look ((pairsOf N V k).map (·.data.toList)) q.data.toList = some x → (ansText (some x) q.size).data.toList ≠ []
  | 0, _, x, hx => by
    have : Envp.look ((pairsOf N V 0).map (·.data.toList)) q.data.toList = none := rfl
    rw [this] at hx; cases hx
  | k + 1, h, x, hx => by
    rw [look_step2 q (h k (by omega))] at hx
    split at hx
    · rename_i hc
      rw [ByteArray.toList_eq, ByteArray.toList_eq, beq_iff_eq] at hc
      injection hx with hx
      subst hx
      show ((⟨_⟩ : ByteArray).extract _ _).data.toList ≠ []
      rw [ext_val _ _ _ (by rw [hc]; simp)]
      exact (h k (by omega)).2.2
    · exact ans_ne q k (fun j hj => h j (by omega)) x hx

/-- how many rows the table has -/
def Rows2 (N V : List ByteArray) (n : Nat) : Prop := (V.length < N.length ∧ n = V.length) ∨ (¬ V.length < N.length ∧ n = N.length)

set_option maxRecDepth 20000 in
set_option maxHeartbeats 8000000 in
theorem look52 (a1 a2 : Option Addr) (c1 c2 : Nat) (N V : List ByteArray) (n : Nat) (q : ByteArray) (w : World) (h1 : Texts w (.slice a1 N.length c1) N) (h2 : Texts w (.slice a2 V.length c2) V) (hn : Rows2 N V n) (hN : N.length ≤ 1048576) (hV : V.length ≤ 1048576) (hok : ∀ j, j < n → RowOk N V j) :
    Calls Tryd.prog 52 #[.agg #[.slice a1 N.length c1, .slice a2 V.length c2], .string q] w fun e w' => e = .returned (.string (ansText (Envp.look ((pairsOf N V n).map (·.data.toList)) q.data.toList) q.size)) ∧ Below w.heap.size w w' := by
  have H1 := Lib.hid h1
  have H2 := Lib.hid h2
  have HOK := Lib.hid hok
  have hNi : (N.length : Int) ≤ 1048576 := by omega
  have hVi : (V.length : Int) ≤ 1048576 := by omega
  clear h1 h2 hok
  rcases hn with ⟨hlt0, rfl⟩ | ⟨hlt0, rfl⟩
  · have hl : (V.length : Int) < (N.length : Int) := by omega
    go_enter Tryd.func52, Tryd.ntmps52
    go_wp2
    go_loopg [5, 7] (V.length) (fun g v5 v7 wr => ∃ k : Nat, v5 = .string (ansText (Envp.look ((pairsOf N V k).map (·.data.toList)) q.data.toList) q.size) ∧ v7 = .int .i64 k ∧ (k : Int) ≤ ((V.length : Nat) : Int) ∧ V.length - k ≤ g ∧ Hid (Below w.heap.size w wr) ∧ Hid (wr.heap[w.heap.size]? = some (.cells #[.slice a1 N.length c1, .slice a2 V.length c2] 62)))
    case atStart => exact ⟨0, rfl, rfl, by omega, by omega, Lib.hid ((Below.refl _ _).alloc (Nat.le_refl _) _), Lib.hid (heap_alloc_new w _)⟩
    case round =>
      obtain ⟨k, rfl, rfl, hk, hg, BW, HH⟩ := hrel
      have t0 : wr.cell? ⟨w.heap.size, 0, none⟩ = some (.slice a1 N.length c1) := cell_heap HH.out 0 _ rfl
      have t1 : wr.cell? ⟨w.heap.size, 1, none⟩ = some (.slice a2 V.length c2) := cell_heap HH.out 1 _ rfl
      by_cases hlt : (k : Int) < ((V.length : Nat) : Int)
      · have hk1 : k < N.length := by omega
        have hk2 : k < V.length := by omega
        obtain ⟨x1, o1, rfl, hc1⟩ := texts_cells (texts_below H1.out BW.out) (by rintro rfl; simp at hk1)
        obtain ⟨x2, o2, rfl, hc2⟩ := texts_cells (texts_below H2.out BW.out) (by rintro rfl; simp at hk2)
        have hx1 := hc1 k hk1
        have hx2 := hc2 k hk2
        have hst := ans_step (V := V) q (HOK.out k (by omega))
        have hki1 : (k : Int) < (N.length : Int) := by omega
        have hki2 : (k : Int) < (V.length : Int) := by omega
        obtain ⟨nm, hnm⟩ : ∃ nm, nm = N.getD k ByteArray.empty := ⟨_, rfl⟩
        obtain ⟨vl, hvl⟩ : ∃ vl, vl = V.getD k ByteArray.empty := ⟨_, rfl⟩
        rw [← hnm] at hx1 hst
        rw [← hvl] at hx2 hst
        have HST := Lib.hid hst
        clear hc1 hc2 hnm hvl hst
        generalize hcur : ansText (Envp.look ((pairsOf N V k).map (·.data.toList)) q.data.toList) q.size = cur at *
        clear hcur
        cases c2 : (nm.toList == q.toList) with
        | true =>
          have A := Lib.hid (by have h := HST.out; rw [if_pos c2] at h; exact h)
          clear HST
          go_wp2
          go_roundg (V.length - (k + 1))
          case measure => omega
          case rel => exact ⟨k + 1, by rw [A.out], by go_num, by omega, Nat.le_refl _, BW, HH⟩
        | false =>
          have A := Lib.hid (by have h := HST.out; rw [if_neg (by rw [c2]; decide)] at h; exact h)
          clear HST
          go_wp2
          go_roundg (V.length - (k + 1))
          case measure => omega
          case rel => exact ⟨k + 1, by rw [A.out], by go_num, by omega, Nat.le_refl _, BW, HH⟩
      · obtain rfl : k = V.length := by omega
        have BB := Lib.hid BW.out
        clear BW
        go_wp2
        go_ret
        exact ⟨rfl, BB.out⟩
  · have hl : ¬ (V.length : Int) < (N.length : Int) := by omega
    go_enter Tryd.func52, Tryd.ntmps52
    go_wp2
    go_loopg [5, 7] (N.length) (fun g v5 v7 wr => ∃ k : Nat, v5 = .string (ansText (Envp.look ((pairsOf N V k).map (·.data.toList)) q.data.toList) q.size) ∧ v7 = .int .i64 k ∧ (k : Int) ≤ ((N.length : Nat) : Int) ∧ N.length - k ≤ g ∧ Hid (Below w.heap.size w wr) ∧ Hid (wr.heap[w.heap.size]? = some (.cells #[.slice a1 N.length c1, .slice a2 V.length c2] 62)))
    case atStart => exact ⟨0, rfl, rfl, by omega, by omega, Lib.hid ((Below.refl _ _).alloc (Nat.le_refl _) _), Lib.hid (heap_alloc_new w _)⟩
    case round =>
      obtain ⟨k, rfl, rfl, hk, hg, BW, HH⟩ := hrel
      have t0 : wr.cell? ⟨w.heap.size, 0, none⟩ = some (.slice a1 N.length c1) := cell_heap HH.out 0 _ rfl
      have t1 : wr.cell? ⟨w.heap.size, 1, none⟩ = some (.slice a2 V.length c2) := cell_heap HH.out 1 _ rfl
      by_cases hlt : (k : Int) < ((N.length : Nat) : Int)
      · have hk1 : k < N.length := by omega
        have hk2 : k < V.length := by omega
        obtain ⟨x1, o1, rfl, hc1⟩ := texts_cells (texts_below H1.out BW.out) (by rintro rfl; simp at hk1)
        obtain ⟨x2, o2, rfl, hc2⟩ := texts_cells (texts_below H2.out BW.out) (by rintro rfl; simp at hk2)
        have hx1 := hc1 k hk1
        have hx2 := hc2 k hk2
        have hst := ans_step (V := V) q (HOK.out k (by omega))
        have hki1 : (k : Int) < (N.length : Int) := by omega
        have hki2 : (k : Int) < (V.length : Int) := by omega
        obtain ⟨nm, hnm⟩ : ∃ nm, nm = N.getD k ByteArray.empty := ⟨_, rfl⟩
        obtain ⟨vl, hvl⟩ : ∃ vl, vl = V.getD k ByteArray.empty := ⟨_, rfl⟩
        rw [← hnm] at hx1 hst
        rw [← hvl] at hx2 hst
        have HST := Lib.hid hst
        clear hc1 hc2 hnm hvl hst
        generalize hcur : ansText (Envp.look ((pairsOf N V k).map (·.data.toList)) q.data.toList) q.size = cur at *
        clear hcur
        cases c2 : (nm.toList == q.toList) with
        | true =>
          have A := Lib.hid (by have h := HST.out; rw [if_pos c2] at h; exact h)
          clear HST
          go_wp2
          go_roundg (N.length - (k + 1))
          case measure => omega
          case rel => exact ⟨k + 1, by rw [A.out], by go_num, by omega, Nat.le_refl _, BW, HH⟩
        | false =>
          have A := Lib.hid (by have h := HST.out; rw [if_neg (by rw [c2]; decide)] at h; exact h)
          clear HST
          go_wp2
          go_roundg (N.length - (k + 1))
          case measure => omega
          case rel => exact ⟨k + 1, by rw [A.out], by go_num, by omega, Nat.le_refl _, BW, HH⟩
      · obtain rfl : k = N.length := by omega
        have BB := Lib.hid BW.out
        clear BW
        go_wp2
        go_ret
        exact ⟨rfl, BB.out⟩

/-- the function environment over a table -/
def tblF (a1 a2 : Option Addr) (l1 c1 l2 c2 : Nat) : Value := .func (.func 52) #[.agg #[.slice a1 l1 c1, .slice a2 l2 c2]] #[]
set_option maxRecDepth 20000 in
set_option maxHeartbeats 8000000 in
theorem get139_core (a1 a2 : Option Addr) (l1 c1 l2 c2 : Nat) (o : Option (List UInt8)) (q : ByteArray) (w : World) (hne : ∀ x, o = some x → (ansText (some x) q.size).data.toList ≠ [])
    (LK : Hid (∀ W : World, Below w.heap.size w W → Calls Tryd.prog 52 #[.agg #[.slice a1 l1 c1, .slice a2 l2 c2], .string q] W fun e w' => e = .returned (.string (ansText o q.size)) ∧ Below W.heap.size W w')) :
    Calls Tryd.prog 139 #[.func (.func 52) #[.agg #[.slice a1 l1 c1, .slice a2 l2 c2]] #[], .string q] w fun e w' => e = .returned (answer o q.size) ∧ Below w.heap.size w w' := by
  cases o with
  | none =>
    unfold ansText at LK
    simp only at LK
    unfold answer zeroVar
    go_enter Tryd.func139, Tryd.ntmps139
    go_wp2_with (go_at_call 52; refine (LK.out _ ((Below.refl _ _).alloc (Nat.le_refl _) _)).mono ?_; rintro e w1 ⟨rfl, hb1⟩; have H0 : Hid (w1.heap[w.heap.size]? = some (.cells #[.bool false, .bool false, .bool false, .bool false, .int .u8 0, .string ⟨#[]⟩, .slice none 0 0, .map none, .slice none 0 0] 34)) := Lib.hid ((hb1.block w.heap.size (by simp)).trans (heap_alloc_new w _)); have B1 : Hid (Below w.heap.size w w1) := Lib.hid (((Below.refl _ _).alloc (Nat.le_refl _) _).trans (hb1.mono (by simp))); clear hb1 LK; have r0 : w1.cell? ⟨w.heap.size, 0, none⟩ = some (.bool false) := cell_heap H0.out 0 _ rfl; have f0 : w1.frozen? ⟨w.heap.size, 0, none⟩ = false := frozen_heap H0.out 0; have r1 : w1.cell? ⟨w.heap.size, 1, none⟩ = some (.bool false) := cell_heap H0.out 1 _ rfl; have f1 : w1.frozen? ⟨w.heap.size, 1, none⟩ = false := frozen_heap H0.out 1; have r2 : w1.cell? ⟨w.heap.size, 2, none⟩ = some (.bool false) := cell_heap H0.out 2 _ rfl; have f2 : w1.frozen? ⟨w.heap.size, 2, none⟩ = false := frozen_heap H0.out 2; have r3 : w1.cell? ⟨w.heap.size, 3, none⟩ = some (.bool false) := cell_heap H0.out 3 _ rfl; have f3 : w1.frozen? ⟨w.heap.size, 3, none⟩ = false := frozen_heap H0.out 3; have r4 : w1.cell? ⟨w.heap.size, 4, none⟩ = some (.int .u8 0) := cell_heap H0.out 4 _ rfl; have f4 : w1.frozen? ⟨w.heap.size, 4, none⟩ = false := frozen_heap H0.out 4; have r5 : w1.cell? ⟨w.heap.size, 5, none⟩ = some (.string ⟨#[]⟩) := cell_heap H0.out 5 _ rfl; have f5 : w1.frozen? ⟨w.heap.size, 5, none⟩ = false := frozen_heap H0.out 5; have r6 : w1.cell? ⟨w.heap.size, 6, none⟩ = some (.slice none 0 0) := cell_heap H0.out 6 _ rfl; have f6 : w1.frozen? ⟨w.heap.size, 6, none⟩ = false := frozen_heap H0.out 6; have r7 : w1.cell? ⟨w.heap.size, 7, none⟩ = some (.map none) := cell_heap H0.out 7 _ rfl; have f7 : w1.frozen? ⟨w.heap.size, 7, none⟩ = false := frozen_heap H0.out 7; have r8 : w1.cell? ⟨w.heap.size, 8, none⟩ = some (.slice none 0 0) := cell_heap H0.out 8 _ rfl; have f8 : w1.frozen? ⟨w.heap.size, 8, none⟩ = false := frozen_heap H0.out 8)
    have hF := put9 (.bool false) (.bool false) (.bool false) (.bool false) (.int .u8 0) (.string ⟨#[]⟩) (.slice none 0 0) (.map none) (.slice none 0 0) (.bool false) (.bool false) (.bool false) (.bool false) (.int .u8 0) (.string ⟨#[]⟩) (.slice none 0 0) (.map none) (.slice none 0 0) H0.out
    refine bodyPost_ret (v := .agg #[.bool false, .bool false, .bool false, .bool false, .int .u8 0, .string ⟨#[]⟩, .slice none 0 0, .map none, .slice none 0 0]) ?_ rfl ⟨rfl, (((((((((B1.out.setCell (Nat.le_refl _) _).setCell (Nat.le_refl _) _).setCell (Nat.le_refl _) _).setCell (Nat.le_refl _) _).setCell (Nat.le_refl _) _).setCell (Nat.le_refl _) _).setCell (Nat.le_refl _) _).setCell (Nat.le_refl _) _).setCell (Nat.le_refl _) _)⟩
    simp [results, Tryd.results139, go_sem, cell_heap hF 0 _ rfl, cell_heap hF 1 _ rfl, cell_heap hF 2 _ rfl, cell_heap hF 3 _ rfl, cell_heap hF 4 _ rfl, cell_heap hF 5 _ rfl, cell_heap hF 6 _ rfl, cell_heap hF 7 _ rfl, cell_heap hF 8 _ rfl]
  | some x =>
    have hx := hne x rfl
    unfold answer strVar
    unfold ansText at LK hx
    simp only at LK hx ⊢
    generalize (⟨x.toArray⟩ : ByteArray).extract (q.size + 1) (⟨x.toArray⟩ : ByteArray).size = xs at *
    have e1 : xs.toList.isEmpty = false := by rw [ByteArray.toList_eq]; simpa using hx
    have e2 : (!xs.toList.isEmpty) = true := by rw [e1]; rfl
    have e3 : ¬ xs.toList = [] := by rw [ByteArray.toList_eq]; exact hx
    clear hx hne
    go_enter Tryd.func139, Tryd.ntmps139
    go_wp2_with (go_at_call 52; refine (LK.out _ ((Below.refl _ _).alloc (Nat.le_refl _) _)).mono ?_; rintro e w1 ⟨rfl, hb1⟩; have H0 : Hid (w1.heap[w.heap.size]? = some (.cells #[.bool false, .bool false, .bool false, .bool false, .int .u8 0, .string ⟨#[]⟩, .slice none 0 0, .map none, .slice none 0 0] 34)) := Lib.hid ((hb1.block w.heap.size (by simp)).trans (heap_alloc_new w _)); have B1 : Hid (Below w.heap.size w w1) := Lib.hid (((Below.refl _ _).alloc (Nat.le_refl _) _).trans (hb1.mono (by simp))); clear hb1 LK; have r0 : w1.cell? ⟨w.heap.size, 0, none⟩ = some (.bool false) := cell_heap H0.out 0 _ rfl; have f0 : w1.frozen? ⟨w.heap.size, 0, none⟩ = false := frozen_heap H0.out 0; have r1 : w1.cell? ⟨w.heap.size, 1, none⟩ = some (.bool false) := cell_heap H0.out 1 _ rfl; have f1 : w1.frozen? ⟨w.heap.size, 1, none⟩ = false := frozen_heap H0.out 1; have r2 : w1.cell? ⟨w.heap.size, 2, none⟩ = some (.bool false) := cell_heap H0.out 2 _ rfl; have f2 : w1.frozen? ⟨w.heap.size, 2, none⟩ = false := frozen_heap H0.out 2; have r3 : w1.cell? ⟨w.heap.size, 3, none⟩ = some (.bool false) := cell_heap H0.out 3 _ rfl; have f3 : w1.frozen? ⟨w.heap.size, 3, none⟩ = false := frozen_heap H0.out 3; have r4 : w1.cell? ⟨w.heap.size, 4, none⟩ = some (.int .u8 0) := cell_heap H0.out 4 _ rfl; have f4 : w1.frozen? ⟨w.heap.size, 4, none⟩ = false := frozen_heap H0.out 4; have r5 : w1.cell? ⟨w.heap.size, 5, none⟩ = some (.string ⟨#[]⟩) := cell_heap H0.out 5 _ rfl; have f5 : w1.frozen? ⟨w.heap.size, 5, none⟩ = false := frozen_heap H0.out 5; have r6 : w1.cell? ⟨w.heap.size, 6, none⟩ = some (.slice none 0 0) := cell_heap H0.out 6 _ rfl; have f6 : w1.frozen? ⟨w.heap.size, 6, none⟩ = false := frozen_heap H0.out 6; have r7 : w1.cell? ⟨w.heap.size, 7, none⟩ = some (.map none) := cell_heap H0.out 7 _ rfl; have f7 : w1.frozen? ⟨w.heap.size, 7, none⟩ = false := frozen_heap H0.out 7; have r8 : w1.cell? ⟨w.heap.size, 8, none⟩ = some (.slice none 0 0) := cell_heap H0.out 8 _ rfl; have f8 : w1.frozen? ⟨w.heap.size, 8, none⟩ = false := frozen_heap H0.out 8)
    have hF := put9 (.bool false) (.bool false) (.bool false) (.bool false) (.int .u8 0) (.string ⟨#[]⟩) (.slice none 0 0) (.map none) (.slice none 0 0) (.bool true) (.bool false) (.bool true) (.bool false) (.int .u8 1) (.string xs) (.slice none 0 0) (.map none) (.slice none 0 0) H0.out
    refine bodyPost_ret (v := .agg #[.bool true, .bool false, .bool true, .bool false, .int .u8 1, .string xs, .slice none 0 0, .map none, .slice none 0 0]) ?_ rfl ⟨rfl, (((((((((B1.out.setCell (Nat.le_refl _) _).setCell (Nat.le_refl _) _).setCell (Nat.le_refl _) _).setCell (Nat.le_refl _) _).setCell (Nat.le_refl _) _).setCell (Nat.le_refl _) _).setCell (Nat.le_refl _) _).setCell (Nat.le_refl _) _).setCell (Nat.le_refl _) _)⟩
    simp [results, Tryd.results139, go_sem, cell_heap hF 0 _ rfl, cell_heap hF 1 _ rfl, cell_heap hF 2 _ rfl, cell_heap hF 3 _ rfl, cell_heap hF 4 _ rfl, cell_heap hF 5 _ rfl, cell_heap hF 6 _ rfl, cell_heap hF 7 _ rfl, cell_heap hF 8 _ rfl]

theorem get139 (a1 a2 : Option Addr) (c1 c2 : Nat) (N V : List ByteArray) (n : Nat) (q : ByteArray) (w : World) (h1 : Texts w (.slice a1 N.length c1) N) (h2 : Texts w (.slice a2 V.length c2) V) (hn : Rows2 N V n) (hN : N.length ≤ 1048576) (hV : V.length ≤ 1048576) (hok : ∀ j, j < n → RowOk N V j) :
    Calls Tryd.prog 139 #[.func (.func 52) #[.agg #[.slice a1 N.length c1, .slice a2 V.length c2]] #[], .string q] w fun e w' => e = .returned (answer (Envp.look ((pairsOf N V n).map (·.data.toList)) q.data.toList) q.size) ∧ Below w.heap.size w w' :=
  get139_core a1 a2 N.length c1 V.length c2 _ q w (fun x hx => ans_ne q n hok x hx) (Lib.hid fun W hW => look52 a1 a2 c1 c2 N V n q W (texts_below h1 hW) (texts_below h2 hW) hn hN hV hok)

theorem door51 (f : Value) (w : World) (hf : f = .func (.func 52) #[] #[] ∨ True) : Calls Tryd.prog 51 #[f] w fun e w' => e = .returned (.iface 93 f) ∧ w = w' := by
  go_enter Tryd.func51, Tryd.ntmps51
  go_wp2
  go_ret
  exact ⟨rfl, rfl⟩

set_option maxRecDepth 20000 in
set_option maxHeartbeats 4000000 in
theorem bytes50 (a a2 : Option Addr) (c d : Nat) (P V : List ByteArray) (q : ByteArray) (w : World) (hc : P ≠ [] → ∃ b off, a = some ⟨b, off, none⟩ ∧ ∀ j, j < P.length → w.cell? ⟨b, off + j, none⟩ = some (.string (P.getD j ByteArray.empty)))
    (hd : V ≠ [] → ∃ b off, a2 = some ⟨b, off, none⟩ ∧ ∀ j, j < V.length → w.cell? ⟨b, off + j, none⟩ = some (.string (V.getD j ByteArray.empty))) :
    Calls Tryd.prog 50 #[.slice a P.length c, .slice a2 V.length d, .string q] w fun e w' => GuardSay (Small P ∧ Small V ∧ q.size ≤ 1048576) e ∧ w = w' := by
  have HD := Lib.hid hd
  clear hd
  go_enter Tryd.func50, Tryd.ntmps50
  by_cases hn : (1048576 : Int) < (P.length : Int)
  · go_wp2
    go_ret
    exact ⟨gs_no rfl, rfl⟩
  · go_wp2
    go_loop [7, 8] (fun v7 v8 => ∃ t k : Nat, v7 = .int .i64 t ∧ v8 = .int .i64 k ∧ (t : Int) ≤ 1048576 ∧ (k : Int) ≤ (P.length : Int) ∧ Hid (∀ j, j < k → (P.getD j ByteArray.empty).size ≤ 1048576)) (fun v7 v8 => P.length - (intOf v8).toNat)
    case atStart => exact ⟨P.length, 0, rfl, rfl, by omega, by omega, Lib.hid fun j hj => by omega⟩
    case round =>
      obtain ⟨t, k, rfl, rfl, ht, hk, HS⟩ := hrel
      by_cases hlt : (k : Int) < (P.length : Int)
      · obtain ⟨b, off, rfl, hcell⟩ := hc (by rintro rfl; simp at hlt; omega)
        have hx := hcell k (by omega)
        obtain ⟨s, hs⟩ : ∃ s, s = P.getD k ByteArray.empty := ⟨_, rfl⟩
        rw [← hs] at hx
        have HS2 : Hid (s.size ≤ 1048576 → ∀ j, j < k + 1 → (P.getD j ByteArray.empty).size ≤ 1048576) := Lib.hid fun h j hj => by
          by_cases e : j = k
          · subst e; rw [← hs]; exact h
          · exact HS.out j (by omega)
        clear hc hcell hs
        by_cases c1 : (1048576 : Int) < (s.size : Int)
        · go_wp2
          go_ret
          exact ⟨gs_no rfl, rfl⟩
        · by_cases c2 : (1048576 : Int) < (t : Int) + (s.size : Int)
          · go_wp2
            go_ret
            exact ⟨gs_no rfl, rfl⟩
          · go_wp2
            go_round
            case rel => exact ⟨t + s.size, k + 1, by go_num, by go_num, by omega, by omega, Lib.hid (HS2.out (by omega))⟩
            case measure => simp [intOf]; omega
      · have HF : Hid (Small P) := Lib.hid ⟨by omega, fun j hj => HS.out j (by omega)⟩
        clear hc HS
        by_cases hn2 : (1048576 : Int) < (V.length : Int)
        · go_wp2
          go_ret
          exact ⟨gs_no rfl, rfl⟩
        · by_cases hn3 : (1048576 : Int) < (t : Int) + (V.length : Int)
          · go_wp2
            go_ret
            exact ⟨gs_no rfl, rfl⟩
          · go_wp2
            go_loop [7, 9] (fun v7 v9 => ∃ t k : Nat, v7 = .int .i64 t ∧ v9 = .int .i64 k ∧ (t : Int) ≤ 1048576 ∧ (k : Int) ≤ (V.length : Int) ∧ Hid (∀ j, j < k → (V.getD j ByteArray.empty).size ≤ 1048576)) (fun v7 v9 => V.length - (intOf v9).toNat)
            case atStart => exact ⟨t + V.length, 0, by go_num, rfl, by omega, by omega, Lib.hid fun j hj => by omega⟩
            case round =>
              obtain ⟨t2, k2, rfl, rfl, ht2, hk2, HS⟩ := hrel
              by_cases hlt2 : (k2 : Int) < (V.length : Int)
              · obtain ⟨b, off, rfl, hcell⟩ := HD.out (by rintro rfl; simp at hlt2; omega)
                have hx := hcell k2 (by omega)
                obtain ⟨s, hs⟩ : ∃ s, s = V.getD k2 ByteArray.empty := ⟨_, rfl⟩
                rw [← hs] at hx
                have HS2 : Hid (s.size ≤ 1048576 → ∀ j, j < k2 + 1 → (V.getD j ByteArray.empty).size ≤ 1048576) := Lib.hid fun h j hj => by
                  by_cases e : j = k2
                  · subst e; rw [← hs]; exact h
                  · exact HS.out j (by omega)
                clear hcell hs HS
                by_cases c1 : (1048576 : Int) < (s.size : Int)
                · go_wp2
                  go_ret
                  exact ⟨gs_no rfl, rfl⟩
                · by_cases c2 : (1048576 : Int) < (t2 : Int) + (s.size : Int)
                  · go_wp2
                    go_ret
                    exact ⟨gs_no rfl, rfl⟩
                  · go_wp2
                    go_round
                    case rel => exact ⟨t2 + s.size, k2 + 1, by go_num, by go_num, by omega, by omega, Lib.hid (HS2.out (by omega))⟩
                    case measure => simp [intOf]; omega
              · have HF2 : Hid (Small V) := Lib.hid ⟨by omega, fun j hj => HS.out j (by omega)⟩
                clear HS
                by_cases c1 : (1048576 : Int) < (q.size : Int)
                · go_wp2
                  go_ret
                  exact ⟨gs_no rfl, rfl⟩
                · by_cases c2 : (1048576 : Int) < (t2 : Int) + (q.size : Int)
                  · go_wp2
                    go_ret
                    exact ⟨gs_no rfl, rfl⟩
                  · go_wp2
                    go_ret
                    exact ⟨gs_yes rfl ⟨HF.out, HF2.out, by omega⟩, rfl⟩
theorem answer_form4 (o : Option (List UInt8)) (n : Nat) : ∃ (b : Bool) (k : Int) (s : ByteArray), (k = 0 ∨ k = 1) ∧ answer o n = .agg #[.bool b, .bool false, .bool b, .bool false, .int .u8 k, .string s, .slice none 0 0, .map none, .slice none 0 0] ∧
    ((o = none ∧ b = false ∧ k = 0 ∧ s = ⟨#[]⟩) ∨ (∃ x, o = some x ∧ b = true ∧ k = 1 ∧ s = (⟨x.toArray⟩ : ByteArray).extract (n + 1) (⟨x.toArray⟩ : ByteArray).size)) := by
  cases o with
  | none => exact ⟨false, 0, _, .inl rfl, rfl, .inl ⟨rfl, rfl, rfl, rfl⟩⟩
  | some x => exact ⟨true, 1, _, .inr rfl, rfl, .inr ⟨x, rfl, rfl, rfl, rfl⟩⟩


end Go.Proofs.YthihppocokkoiaaDoor
