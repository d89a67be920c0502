/-
  The walk of the recording callback and of the environment's Each. Conditions: those in each theorem.
-/
import Derived.Test.YthihppocokkoiaaDoorLwD
import Derived.Lib.Builder
import Derived.Lib.BufferOwn
namespace Go.Proofs.YthihppocokkoiaaDoor
set_option linter.unusedVariables false
open Go.Shelf Go.RowKit Go.Lib Go.Sort

/-- a set, exported text variable's nine cells -/
def strCs (s : ByteArray) : List Value := [.bool true, .bool false, .bool true, .bool false, .int .u8 1, .string s, .slice none 0 0, .map none, .slice none 0 0]
def strAll (vs : List ByteArray) : List Value := vs.flatMap strCs
theorem strAll_len (vs : List ByteArray) : (strAll vs).length = vs.length * 9 := by
  induction vs with
  | nil => rfl
  | cons v vs ih =>
    unfold strAll at ih ⊢
    rw [List.flatMap_cons, List.length_append, ih, List.length_cons]
    show 9 + _ = _
    omega
theorem strAll_snoc (vs : List ByteArray) (v : ByteArray) : strAll (vs ++ [v]) = strAll vs ++ strCs v := by
  unfold strAll; rw [List.flatMap_append]; simp

/-- what has been recorded: the names' and the variables' cells, their rows from E on -/
structure Rec (E bn bv : Nat) (ns vs : List ByteArray) (w : World) : Prop where
  hn : ∃ v, w.heap[bn]? = some (.cells #[v] 22 (0, 0)) ∧ w.ownsRow E 9 1 v ns.length (ns.map Value.string)
  hv : ∃ v, w.heap[bv]? = some (.cells #[v] 67 (0, 0)) ∧ w.ownsRow E 34 9 v vs.length (strAll vs)
  le : E ≤ w.heap.size
/-- the world but for the two cells below E -/
structure FrE (E bn bv : Nat) (w w' : World) : Prop where
  os : w'.os = w.os
  tape : w'.tape = w.tape
  output : w'.output = w.output
  size : w.heap.size ≤ w'.heap.size
  block : ∀ i, i < E → i ≠ bn → i ≠ bv → w'.heap[i]? = w.heap[i]?
theorem FrE.refl (E bn bv : Nat) (w : World) : FrE E bn bv w w := ⟨rfl, rfl, rfl, Nat.le_refl _, fun _ _ _ _ => rfl⟩
theorem FrE.trans {E bn bv : Nat} {w w1 w2 : World} (h : FrE E bn bv w w1) (k : FrE E bn bv w1 w2) : FrE E bn bv w w2 :=
  ⟨k.os.trans h.os, k.tape.trans h.tape, k.output.trans h.output, Nat.le_trans h.size k.size, fun i a b c => (k.block i a b c).trans (h.block i a b c)⟩
theorem FrE.drewN {E bn bv : Nat} {w w1 : World} (h : FrE E bn bv w w1) (n : Nat) : FrE E bn bv w (w1.drewN n) := ⟨h.os, h.tape, h.output, h.size, h.block⟩

theorem inf9z : ∃ i, Tryd.prog.info? 9 = some i ∧ i.zero = some (.string ⟨#[]⟩) ∧ i.size = 1 ∧ i.bytes = 16 := by
  have h : (Tryd.prog.info? 9).map (fun i => (i.zero, i.size, i.bytes)) = some (some (.string ⟨#[]⟩), 1, 16) := by kernel_rfl
  exact info_parts h
theorem inf34 : ∃ i, Tryd.prog.info? 34 = some i ∧ i.zero = some zeroVar ∧ i.size = 9 ∧ i.bytes = 80 := by
  have h : (Tryd.prog.info? 34).map (fun i => (i.zero, i.size, i.bytes)) = some (some zeroVar, 9, 80) := by kernel_rfl
  exact info_parts h

theorem newsN {w : World} {cs : Array Value} {t : TypeId} (ad : Addr) (had : ad = ⟨w.heap.size, 0, none⟩) : ∀ j u, cs.toList[j]? = some u → (w.alloc (.cells cs t)).cell? (ad.add j) = some u := by
  intro j u hj
  subst had
  rw [show (⟨w.heap.size, 0, none⟩ : Addr).add j = ⟨w.heap.size, j, none⟩ by simp [Addr.add]; intro h; exact h.symm]
  rw [Lib.cell_of_heap (heap_alloc_new w (.cells cs t)) j]
  simpa using hj

theorem own_set {w : World} {B e size : Nat} {v : Value} {n : Nat} {xs : List Value} (h : w.ownsRow B e size v n xs) (a : Addr) (x : Value) (hne : v.ownBlock ≠ some a.block) : (w.setCell a x).ownsRow B e size v n xs := by
  refine ⟨h.1, ?_⟩
  rcases h.2 with hr | ⟨g, cap, cur, hv, hg, hh, r⟩
  · exact .inl hr
  · refine .inr ⟨g, cap, cur, hv, hg, ?_, r⟩
    rw [Below.heap_setCell w a x g (by rintro rfl; exact hne (by rw [hv]; rfl))]
    exact hh
theorem FrE.set {E bn bv : Nat} {w w1 : World} (h : FrE E bn bv w w1) {a : Addr} (ha : a.block = bn ∨ a.block = bv) (x : Value) : FrE E bn bv w (w1.setCell a x) :=
  ⟨h.os, h.tape, h.output, by have := h.size; simp [World.setCell]; exact this, fun i hi a1 a2 => (Below.heap_setCell _ _ _ _ (by rcases ha with e | e <;> (rw [e]; assumption))).trans (h.block i hi a1 a2)⟩
theorem one9 (s : ByteArray) : ∀ u ∈ strCs s, u.oneCell' = true := by
  intro u hu
  unfold strCs at hu
  simp only [List.mem_cons, List.not_mem_nil, or_false] at hu
  rcases hu with h | h | h | h | h | h | h | h | h <;> (rw [h]; rfl)

/-- does the callback, called after n records, ask for more? -/
def goOn (stop : Int) (n : Nat) : Bool := decide (stop ≤ 0) || decide ((n : Int) + 1 < stop)
/-- what the callback leaves -/
def ClRet (E bn bv : Nat) (ns vs : List ByteArray) (name val : ByteArray) (stop : Int) (w : World) (e : Ending) (w' : World) : Prop :=
  e = .returned (.bool (goOn stop ns.length)) ∧ Rec E bn bv (ns ++ [name]) (vs ++ [val]) w' ∧ FrE E bn bv w w'
theorem cl_mk {E bn bv : Nat} {ns vs : List ByteArray} {name val : ByteArray} {stop : Int} {w w' : World} {e : Ending} {b : Bool} (he : e = .returned (.bool b)) (hb : b = goOn stop ns.length) (h1 : Rec E bn bv (ns ++ [name]) (vs ++ [val]) w') (h2 : FrE E bn bv w w') : ClRet E bn bv ns vs name val stop w e w' := ⟨by rw [he, hb], h1, h2⟩

set_option maxRecDepth 20000 in
set_option maxHeartbeats 8000000 in
theorem clo71 (E bn bv bs : Nat) (ns vs : List ByteArray) (stop : Int) (name val : ByteArray) (w : World) (h : Rec E bn bv ns vs w) (hst : w.cell? ⟨bs, 0, none⟩ = some (.int .i64 stop)) (h1 : bn < E) (h2 : bv < E) (h3 : bs < E) (hne : bs ≠ bn) (hne2 : bs ≠ bv) (hnv : bn ≠ bv) (hl : ns.length ≤ 1073741824) (hl2 : vs.length ≤ 1073741824) :
    Calls Tryd.prog 71 #[.string name, .agg #[.bool true, .bool false, .bool true, .bool false, .int .u8 1, .string val, .slice none 0 0, .map none, .slice none 0 0], .pointer (some ⟨bn, 0, none⟩), .pointer (some ⟨bv, 0, none⟩), .pointer (some ⟨bs, 0, none⟩)] w (ClRet E bn bv ns vs name val stop w) := by
  obtain ⟨i9, hi9, hz9, hs9, hb9⟩ := inf9z
  obtain ⟨i34, hi34, hz34, hs34, hb34⟩ := inf34
  obtain ⟨vn, hvn, own⟩ := h.hn
  obtain ⟨vv, hvv, owv⟩ := h.hv
  have HE := Lib.hid h.le
  have ON := Lib.hid own
  have OV := Lib.hid owv
  have HN := Lib.hid hvn
  have HV := Lib.hid hvv
  have c1 : (w.alloc (.cells #[.bool true, .bool false, .bool true, .bool false, .int .u8 1, .string val, .slice none 0 0, .map none, .slice none 0 0] 34)).cell? ⟨bn, 0, none⟩ = some vn := by
    rw [Lib.cell_of_heap ((Below.heap_alloc _ _ _ (Lib.lt_of_heap hvn)).trans hvn)]; rfl
  clear h own owv hvn hvv
  go_enter Tryd.func71, Tryd.ntmps71
  go_wp2_with (at_builtin; refine wpList_append_own _ rfl (.tmp 8) (.tmp 10) 22 rfl E 9 i9 (.string ⟨#[]⟩) 1 16 Tryd.underlying22 hi9 hz9 hs9 hb9 rfl (by decide) _ _ _ rfl ((ON.out.alloc _).alloc _) ⟨w.heap.size + 1, 0, none⟩ 1 1 [.string name] rfl rfl (newsN (cs := #[.string name]) _ (by simp)) (fun u hu => by rw [List.mem_singleton.1 hu]; rfl) (by unfold maxLen; omega) (by omega) (by have := HE.out; simp; omega) ?_)
  intro v1 w1 hown1 hgrow1 _
  have G1 : Hid (FrE E bn bv w w1) := Lib.hid ⟨hgrow1.os, hgrow1.tape, hgrow1.output, by have := hgrow1.size; simp at this; omega, fun i hi _ _ => by
    rw [hgrow1.block i (by have := HE.out; simp; omega) (fun e => by have := (ON.out.lt _ e.symm).1; omega), Below.heap_alloc _ _ _ (by have := HE.out; simp; omega), Below.heap_alloc _ _ _ (by have := HE.out; omega)]⟩
  have hbn : w1.heap[bn]? = some (.cells #[vn] 22 (0, 0)) := by
    rw [hgrow1.block bn (by have := HE.out; simp; omega) (fun e => by have := (ON.out.lt _ e.symm).1; omega), Below.heap_alloc _ _ _ (by have := HE.out; simp; omega), Below.heap_alloc _ _ _ (by have := HE.out; omega)]
    exact HN.out
  have hbv : w1.heap[bv]? = some (.cells #[vv] 67 (0, 0)) := by
    rw [hgrow1.block bv (by have := HE.out; simp; omega) (fun e => by have := (ON.out.lt _ e.symm).1; omega), Below.heap_alloc _ _ _ (by have := HE.out; simp; omega), Below.heap_alloc _ _ _ (by have := HE.out; omega)]
    exact HV.out
  have hbx : w1.heap[w.heap.size]? = some (.cells #[.bool true, .bool false, .bool true, .bool false, .int .u8 1, .string val, .slice none 0 0, .map none, .slice none 0 0] 34) := by
    exact (hgrow1.block w.heap.size (by simp; omega) (fun e => by have := (ON.out.lt _ e.symm).2; omega)).trans ((Below.heap_alloc _ _ _ (by simp)).trans (heap_alloc_new w _))
  have hE1 : E ≤ w1.heap.size := by have h1 := hgrow1.size; have h2 := HE.out; simp at h1; omega
  have d1 : w1.cell? ⟨bn, 0, none⟩ = some vn := by rw [Lib.cell_of_heap hbn]; rfl
  have f1 : w1.frozen? ⟨bn, 0, none⟩ = false := Lib.frozen_of_heap hbn 0
  have OV1 : Hid (w1.ownsRow E 34 9 vv vs.length (strAll vs)) := Lib.hid (((OV.out.alloc _).alloc _).kept hgrow1 (by
    cases hq : vv.ownBlock with
    | none => exact .inl rfl
    | some g =>
      refine .inr (fun e => ?_)
      rcases OV.out.2 with ⟨rfl, _⟩ | ⟨g1, c1', cur1, rfl, _, hh1, _⟩
      · cases hq
      · rcases ON.out.2 with ⟨rfl, _⟩ | ⟨g2, c2', cur2, rfl, _, hh2, _⟩
        · cases e
        · cases hq
          injection e with e
          subst e
          rw [hh1] at hh2
          cases hh2))
  obtain ⟨g1, k1, rfl⟩ : ∃ g cap, v1 = .slice (some ⟨g, 0, none⟩) (ns.length + 1) cap := by
    rcases hown1.2 with ⟨_, h0⟩ | ⟨g, cap, cur, hv, _⟩
    · omega
    · exact ⟨g, cap, hv⟩
  have HBN := Lib.hid hbn
  have HBV := Lib.hid hbv
  have HBX := Lib.hid hbx
  have HE1 := Lib.hid hE1
  have O1 := Lib.hid hown1
  clear hown1 hgrow1 hbn hbv hbx hE1 c1 ON OV HN HV
  have e2 : (w1.setCell ⟨bn, 0, none⟩ (.slice (some ⟨g1, 0, none⟩) (ns.length + 1) k1)).heap[bv]? = some (.cells #[vv] 67 (0, 0)) := (Below.heap_setCell _ _ _ _ (Ne.symm hnv)).trans HBV.out
  have e3 : (w1.setCell ⟨bn, 0, none⟩ (.slice (some ⟨g1, 0, none⟩) (ns.length + 1) k1)).heap[w.heap.size]? = some (.cells #[.bool true, .bool false, .bool true, .bool false, .int .u8 1, .string val, .slice none 0 0, .map none, .slice none 0 0] 34) := (Below.heap_setCell _ _ _ _ (by have := HE.out; show w.heap.size ≠ bn; omega)).trans HBX.out
  have d2 : (w1.setCell ⟨bn, 0, none⟩ (.slice (some ⟨g1, 0, none⟩) (ns.length + 1) k1)).cell? ⟨bv, 0, none⟩ = some vv := by rw [Lib.cell_of_heap e2]; rfl
  have r0 : (w1.setCell ⟨bn, 0, none⟩ (.slice (some ⟨g1, 0, none⟩) (ns.length + 1) k1)).cell? ⟨w.heap.size, 0, none⟩ = some (.bool true) := cell_heap e3 0 _ rfl
  have r1 : (w1.setCell ⟨bn, 0, none⟩ (.slice (some ⟨g1, 0, none⟩) (ns.length + 1) k1)).cell? ⟨w.heap.size, 1, none⟩ = some (.bool false) := cell_heap e3 1 _ rfl
  have r2 : (w1.setCell ⟨bn, 0, none⟩ (.slice (some ⟨g1, 0, none⟩) (ns.length + 1) k1)).cell? ⟨w.heap.size, 2, none⟩ = some (.bool true) := cell_heap e3 2 _ rfl
  have r3 : (w1.setCell ⟨bn, 0, none⟩ (.slice (some ⟨g1, 0, none⟩) (ns.length + 1) k1)).cell? ⟨w.heap.size, 3, none⟩ = some (.bool false) := cell_heap e3 3 _ rfl
  have r4 : (w1.setCell ⟨bn, 0, none⟩ (.slice (some ⟨g1, 0, none⟩) (ns.length + 1) k1)).cell? ⟨w.heap.size, 4, none⟩ = some (.int .u8 1) := cell_heap e3 4 _ rfl
  have r5 : (w1.setCell ⟨bn, 0, none⟩ (.slice (some ⟨g1, 0, none⟩) (ns.length + 1) k1)).cell? ⟨w.heap.size, 5, none⟩ = some (.string val) := cell_heap e3 5 _ rfl
  have r6 : (w1.setCell ⟨bn, 0, none⟩ (.slice (some ⟨g1, 0, none⟩) (ns.length + 1) k1)).cell? ⟨w.heap.size, 6, none⟩ = some (.slice none 0 0) := cell_heap e3 6 _ rfl
  have r7 : (w1.setCell ⟨bn, 0, none⟩ (.slice (some ⟨g1, 0, none⟩) (ns.length + 1) k1)).cell? ⟨w.heap.size, 7, none⟩ = some (.map none) := cell_heap e3 7 _ rfl
  have r8 : (w1.setCell ⟨bn, 0, none⟩ (.slice (some ⟨g1, 0, none⟩) (ns.length + 1) k1)).cell? ⟨w.heap.size, 8, none⟩ = some (.slice none 0 0) := cell_heap e3 8 _ rfl
  have OV2 : Hid ((w1.setCell ⟨bn, 0, none⟩ (.slice (some ⟨g1, 0, none⟩) (ns.length + 1) k1)).ownsRow E 34 9 vv vs.length (strAll vs)) := Lib.hid (own_set OV1.out _ _ (fun e => by have := (OV1.out.lt _ e).1; simp only at this; omega))
  have O2 : Hid ((w1.setCell ⟨bn, 0, none⟩ (.slice (some ⟨g1, 0, none⟩) (ns.length + 1) k1)).ownsRow E 9 1 (.slice (some ⟨g1, 0, none⟩) (ns.length + 1) k1) (ns.length + 1) (ns.map Value.string ++ [.string name])) := Lib.hid (own_set O1.out _ _ (fun e => by have := (O1.out.lt _ e).1; simp only at this; omega))
  have E2 := Lib.hid e2
  have BN2 : Hid ((w1.setCell ⟨bn, 0, none⟩ (.slice (some ⟨g1, 0, none⟩) (ns.length + 1) k1)).heap[bn]? = some (.cells #[.slice (some ⟨g1, 0, none⟩) (ns.length + 1) k1] 22 (0, 0))) := Lib.hid (Lib.heap_setCell_same (i := 0) HBN.out _)
  have G2 : Hid (FrE E bn bv w (w1.setCell ⟨bn, 0, none⟩ (.slice (some ⟨g1, 0, none⟩) (ns.length + 1) k1))) := Lib.hid (G1.out.set (.inl rfl) _)
  clear e2 e3 HBN HBV HBX G1 O1 OV1
  go_wp2_with (at_builtin; refine wpList_append_own _ rfl (.tmp 12) (.tmp 14) 67 rfl E 34 i34 zeroVar 9 80 Tryd.underlying67 hi34 hz34 hs34 hb34 rfl (by decide) _ _ _ rfl (OV2.out.alloc _) ⟨w1.heap.size, 0, none⟩ 1 1 (strCs val) rfl rfl (newsN (cs := #[.bool true, .bool false, .bool true, .bool false, .int .u8 1, .string val, .slice none 0 0, .map none, .slice none 0 0]) _ (by simp)) (one9 val) (by unfold maxLen; omega) (by omega) (by have := HE1.out; simp; omega) ?_)
  intro v2 w3 hown3 hgrow3 _
  clear r0 r1 r2 r3 r4 r5 r6 r7 r8 d2
  obtain ⟨g2, k2, rfl⟩ : ∃ g cap, v2 = .slice (some ⟨g, 0, none⟩) (vs.length + 1) cap := by
    rcases hown3.2 with ⟨_, h0⟩ | ⟨g, cap, cur, hv, _⟩
    · omega
    · exact ⟨g, cap, hv⟩
  have hsz2 : E ≤ (w1.setCell ⟨bn, 0, none⟩ (.slice (some ⟨g1, 0, none⟩) (ns.length + 1) k1)).heap.size := by have := HE1.out; simp [World.setCell]; exact this
  have hk3 : ∀ i, i < (w1.setCell ⟨bn, 0, none⟩ (.slice (some ⟨g1, 0, none⟩) (ns.length + 1) k1)).heap.size → vv.ownBlock ≠ some i → w3.heap[i]? = (w1.setCell ⟨bn, 0, none⟩ (.slice (some ⟨g1, 0, none⟩) (ns.length + 1) k1)).heap[i]? := fun i hi hne => by
    rw [hgrow3.block i (by simp at hi ⊢; omega) (fun e => hne e.symm), Below.heap_alloc _ _ _ hi]
  have hvE : ∀ i, i < E → vv.ownBlock ≠ some i := fun i hi e => by have := (OV2.out.lt _ e).1; omega
  have b3 : w3.heap[bv]? = some (.cells #[vv] 67 (0, 0)) := (hk3 bv (by omega) (hvE bv h2)).trans E2.out
  have n3 : w3.heap[bn]? = some (.cells #[.slice (some ⟨g1, 0, none⟩) (ns.length + 1) k1] 22 (0, 0)) := (hk3 bn (by omega) (hvE bn h1)).trans BN2.out
  have O3 : Hid (w3.ownsRow E 9 1 (.slice (some ⟨g1, 0, none⟩) (ns.length + 1) k1) (ns.length + 1) (ns.map Value.string ++ [.string name])) := Lib.hid ((O2.out.alloc _).kept hgrow3 (.inr (fun e => by
    rcases OV2.out.2 with ⟨rfl, _⟩ | ⟨g, c', cur, rfl, _, hh1, _⟩
    · cases e
    · rcases O2.out.2 with ⟨hx, _⟩ | ⟨g', c2', cur2, hx, _, hh2, _⟩
      · cases hx
      · injection e with e
        injection hx with hx _ _
        injection hx with hx
        injection hx with hx
        subst e
        rw [← hx, hh1] at hh2
        cases hh2)))
  have hle3 : E ≤ w3.heap.size := by have h3 := hgrow3.size; simp at h3 hsz2; omega
  have G3 : Hid (FrE E bn bv w w3) := Lib.hid (G2.out.trans ⟨hgrow3.os, hgrow3.tape, hgrow3.output, by have h3 := hgrow3.size; simp at h3 ⊢; omega, fun i hi _ _ => hk3 i (by omega) (hvE i hi)⟩)
  have st3 : w3.cell? ⟨bs, 0, none⟩ = some (.int .i64 stop) := by
    rw [World.cell?_of_block (w := w) (G3.out.block bs h3 hne hne2)]; exact hst
  have d3 : w3.cell? ⟨bv, 0, none⟩ = some vv := by rw [Lib.cell_of_heap b3]; rfl
  have f3 : w3.frozen? ⟨bv, 0, none⟩ = false := Lib.frozen_of_heap b3 0
  have n4 : (w3.setCell ⟨bv, 0, none⟩ (.slice (some ⟨g2, 0, none⟩) (vs.length + 1) k2)).heap[bn]? = some (.cells #[.slice (some ⟨g1, 0, none⟩) (ns.length + 1) k1] 22 (0, 0)) := (Below.heap_setCell _ _ _ _ hnv).trans n3
  have d4 : (w3.setCell ⟨bv, 0, none⟩ (.slice (some ⟨g2, 0, none⟩) (vs.length + 1) k2)).cell? ⟨bn, 0, none⟩ = some (.slice (some ⟨g1, 0, none⟩) (ns.length + 1) k1) := by rw [Lib.cell_of_heap n4]; rfl
  have s4 : (w3.setCell ⟨bv, 0, none⟩ (.slice (some ⟨g2, 0, none⟩) (vs.length + 1) k2)).cell? ⟨bs, 0, none⟩ = some (.int .i64 stop) := by
    rw [World.cell?_of_block (w := w3) (Below.heap_setCell _ _ _ _ hne2)]; exact st3
  have V3 := Lib.hid hown3
  have N4 := Lib.hid n4
  have B3 := Lib.hid b3
  have HLE := Lib.hid hle3
  clear hown3 hgrow3 hk3 hvE b3 n3 n4 hle3 hsz2 G2 O2 OV2 E2 BN2 hst st3
  have RR : Hid (Rec E bn bv (ns ++ [name]) (vs ++ [val]) (w3.setCell ⟨bv, 0, none⟩ (.slice (some ⟨g2, 0, none⟩) (vs.length + 1) k2))) := Lib.hid ⟨⟨_, N4.out, by
      rw [List.length_append, List.map_append]
      exact own_set O3.out _ _ (fun e => by have := (O3.out.lt _ e).1; simp only at this; omega)⟩, ⟨_, Lib.heap_setCell_same (i := 0) B3.out _, by
      rw [List.length_append, strAll_snoc]
      exact own_set V3.out _ _ (fun e => by have := (V3.out.lt _ e).1; simp only at this; omega)⟩, by have := HLE.out; simp [World.setCell]; exact this⟩
  have G4 : Hid (FrE E bn bv w (w3.setCell ⟨bv, 0, none⟩ (.slice (some ⟨g2, 0, none⟩) (vs.length + 1) k2))) := Lib.hid (G3.out.set (.inr rfl) _)
  clear N4 B3 HLE O3 V3 G3
  by_cases hs0 : stop ≤ 0
  · go_wp2
    go_ret
    exact cl_mk rfl (by unfold goOn; rw [decide_eq_true hs0]; rfl) RR.out G4.out
  · have hgo : goOn stop ns.length = decide ((ns.length : Int) + 1 < stop) := by unfold goOn; rw [decide_eq_false hs0, Bool.false_or]
    have HGO := Lib.hid hgo
    clear hgo
    go_wp2
    go_ret
    exact cl_mk rfl HGO.out.symm RR.out G4.out

/-- a pair's name and value as texts -/
def nameB (x : List UInt8) : ByteArray := ⟨(Envp.nameOf x).toArray⟩
def valB (x : List UInt8) : ByteArray := ⟨(Envp.valOf x).toArray⟩
theorem cut_named {x : List UInt8} {i : Nat} (h : Envp.eqAt x = i) : nameB x = (⟨x.toArray⟩ : ByteArray).extract 0 i ∧ valB x = (⟨x.toArray⟩ : ByteArray).extract (i + 1) (⟨x.toArray⟩ : ByteArray).size := by
  unfold nameB valB Envp.nameOf Envp.valOf
  rw [h, Int.toNat_natCast]
  refine ⟨?_, ?_⟩
  · apply ByteArray.ext
    apply Array.toList_inj.1
    rw [ByteArray.data_extract, Array.toList_extract, List.extract_eq_take_drop]
    simp
  · apply ByteArray.ext
    apply Array.toList_inj.1
    rw [ByteArray.data_extract, Array.toList_extract, List.extract_eq_take_drop]
    show List.drop (i + 1) x = List.take _ (List.drop (i + 1) x)
    rw [List.take_of_length_le]
    simp [ByteArray.size]
/-- how many calls Each makes -/
def calls (stop : Int) (n : Nat) : Nat := if stop ≤ 0 then n else min stop.toNat n
/-- what Each leaves -/
def EachOut (E bn bv : Nat) (R : List (List UInt8)) (stop : Int) (w : World) (e : Ending) (w' : World) : Prop :=
  e = .returned (.tuple #[]) ∧ Rec E bn bv ((R.take (calls stop R.length)).map nameB) ((R.take (calls stop R.length)).map valB) w' ∧ FrE E bn bv w w'
theorem rec_grew {E bn bv : Nat} {ns vs : List ByteArray} {w w' : World} (h : Rec E bn bv ns vs w) (hs : w.heap.size ≤ w'.heap.size) (hb : ∀ i, i < w.heap.size → w'.heap[i]? = w.heap[i]?) : Rec E bn bv ns vs w' := by
  obtain ⟨v, h1, o1⟩ := h.hn
  obtain ⟨v2, h2, o2⟩ := h.hv
  have tr : ∀ {e size : Nat} {v : Value} {n : Nat} {xs : List Value}, w.ownsRow E e size v n xs → w'.ownsRow E e size v n xs := by
    intro e size v n xs o
    refine ⟨o.1, ?_⟩
    rcases o.2 with hr | ⟨g, cap, cur, hv, hg, hh, r⟩
    · exact .inl hr
    · exact .inr ⟨g, cap, cur, hv, hg, (hb g (Array.getElem?_eq_some_iff.1 hh).1).trans hh, r⟩
  exact ⟨⟨v, (hb bn (Array.getElem?_eq_some_iff.1 h1).1).trans h1, tr o1⟩, ⟨v2, (hb bv (Array.getElem?_eq_some_iff.1 h2).1).trans h2, tr o2⟩, Nat.le_trans h.le hs⟩

set_option maxRecDepth 20000 in
set_option maxHeartbeats 8000000 in
theorem each140 (E B bn bv bs : Nat) (ci : Bool) (sv : Value) (R : List (List UInt8)) (stop : Int) (w : World) (hE : E = w.heap.size) (hR : RowAt w B sv R) (hv : ∀ y ∈ R, Envp.valid y = true) (hlen : ∀ y ∈ R, y.length ≤ 1073741824) (hn : R.length ≤ 1073741824) (hB : bn < B ∧ bv < B)
    (h0 : Rec E bn bv [] [] w) (hst : w.cell? ⟨bs, 0, none⟩ = some (.int .i64 stop)) (h1 : bn < E) (h2 : bv < E) (h3 : bs < E) (hne : bs ≠ bn) (hne2 : bs ≠ bv) (hnv : bn ≠ bv) :
    Calls Tryd.prog 140 #[.agg #[.bool ci, sv], .func (.func 71) #[] #[.pointer (some ⟨bn, 0, none⟩), .pointer (some ⟨bv, 0, none⟩), .pointer (some ⟨bs, 0, none⟩)]] w (EachOut E bn bv R stop w) := by
  obtain ⟨a, cap, rfl, hcap, hm, hrow⟩ := hR
  have hni : (R.length : Int) ≤ 1073741824 := by omega
  have CELL : Hid (∀ j (h : j < R.length), ∃ g, a = some ⟨g, 0, none⟩ ∧ g < E ∧ g ≠ bn ∧ g ≠ bv ∧ w.cell? ⟨g, j, none⟩ = some (.string ⟨R[j].toArray⟩)) := Lib.hid fun j h => by
    obtain ⟨g, ha, hg1, hg2, hH⟩ := hrow (by rintro rfl; simp at h)
    refine ⟨g, ha, by omega, by omega, by omega, ?_⟩
    have := (hH j (by simpa using h)).1
    rw [Nat.zero_add, getElem!_pos R.toArray j (by simpa using h)] at this
    simpa [encStr] using this
  have CL := Lib.hid fun (ns vs : List ByteArray) (name val : ByteArray) (W : World) (hrec : Rec E bn bv ns vs W) (hs : W.cell? ⟨bs, 0, none⟩ = some (.int .i64 stop)) (hl : ns.length ≤ 1073741824) (hl2 : vs.length ≤ 1073741824) => clo71 E bn bv bs ns vs stop name val W hrec hs h1 h2 h3 hne hne2 hnv hl hl2
  have ST := Lib.hid hst
  have RC0 : Hid (Rec E bn bv ((R.take 0).map nameB) ((R.take 0).map valB) (w.alloc (.cells #[.bool ci, .slice a R.length cap] 97))) := Lib.hid (rec_grew h0 (by simp) (fun i hi => Below.heap_alloc _ _ _ hi))
  have FR0 : Hid (FrE E bn bv w (w.alloc (.cells #[.bool ci, .slice a R.length cap] 97))) := Lib.hid ⟨rfl, rfl, rfl, by simp, fun i hi _ _ => Below.heap_alloc _ _ _ (by omega)⟩
  have HV := Lib.hid hv
  have HLEN := Lib.hid hlen
  have HEE := Lib.hid hE
  clear hrow h0 hst hv hlen hE
  go_enter Tryd.func140, Tryd.ntmps140
  go_wp2
  go_loopg [12] (R.length) (fun g v12 wr => ∃ k : Nat, v12 = .int .i64 k ∧ (k : Int) ≤ (R.length : Int) ∧ R.length - k ≤ g ∧ (stop ≤ 0 ∨ (k : Int) < stop) ∧ Hid (Rec E bn bv ((R.take k).map nameB) ((R.take k).map valB) wr) ∧ Hid (FrE E bn bv w wr))
  case atStart => exact ⟨0, rfl, by omega, by omega, by omega, RC0, FR0⟩
  case round =>
    clear RC0 FR0
    obtain ⟨k, rfl, hk, hg, hgo, RC, FR⟩ := hrel
    by_cases hlt : (k : Int) < (R.length : Int)
    · have hkn : k < R.length := by omega
      obtain ⟨gR, ha, hgE, hgn, hgv, hc⟩ := CELL.out k hkn
      subst ha
      have hx : wr.cell? ⟨gR, k, none⟩ = some (.string ⟨R[k].toArray⟩) := by rw [World.cell?_of_block (w := w) (FR.out.block gR hgE hgn hgv)]; exact hc
      obtain ⟨x, hxe⟩ : ∃ x, x = R[k] := ⟨_, rfl⟩
      rw [← hxe] at hx
      have hvx : Envp.valid x = true := by rw [hxe]; exact HV.out _ (List.getElem_mem hkn)
      have hlx : x.length ≤ 1073741824 := by rw [hxe]; exact HLEN.out _ (List.getElem_mem hkn)
      obtain ⟨i, hi, hi0⟩ := Envp.valid_at hvx
      obtain ⟨en, ev⟩ := cut_named hi
      have CUT := Lib.hid (cutEq_some ⟨x.toArray⟩ wr i hlx hi (nameB x) (valB x) (Lib.hid en) (Lib.hid ev))
      have TK : Hid ((R.take (k + 1)).map nameB = (R.take k).map nameB ++ [nameB x] ∧ (R.take (k + 1)).map valB = (R.take k).map valB ++ [valB x]) := Lib.hid (by
        rw [List.take_succ_eq_append_getElem hkn, ← hxe]; simp)
      have hln : ((R.take k).map nameB).length = k := by simp; omega
      have hlv : ((R.take k).map valB).length = k := by simp; omega
      have CA : Hid (∀ n, Calls Tryd.prog 71 #[.string (nameB x), .agg #[.bool true, .bool false, .bool true, .bool false, .int .u8 1, .string (valB x), .slice none 0 0, .map none, .slice none 0 0], .pointer (some ⟨bn, 0, none⟩), .pointer (some ⟨bv, 0, none⟩), .pointer (some ⟨bs, 0, none⟩)] (wr.drewN n) (ClRet E bn bv ((R.take k).map nameB) ((R.take k).map valB) (nameB x) (valB x) stop (wr.drewN n))) := Lib.hid fun n =>
        CL.out _ _ _ _ (wr.drewN n) (rec_grew RC.out (Nat.le_refl _) (fun _ _ => rfl)) (by rw [World.cell?_of_block (w := w) (FR.out.block bs h3 hne hne2)]; exact ST.out) (by omega) (by omega)
      have HLN := Lib.hid hln
      clear hc hxe hvx hlx hi hi0 en ev hln hlv CL ST CELL
      cases hgB : goOn stop k with
      | true =>
        have hgo2 : stop ≤ 0 ∨ (k : Int) + 1 < stop := by
          unfold goOn at hgB
          simp only [Bool.or_eq_true, decide_eq_true_eq] at hgB
          exact hgB
        have HG2 : Hid (goOn stop k = true) := Lib.hid hgB
        clear hgB
        go_wp2_with (first | (go_at_call 77; refine CUT.out.mono ?_; rintro e w1 ⟨rfl, n, rfl⟩; clear CUT) | (go_at_call 71; refine (CA.out _).mono ?_; rintro e w2 ⟨he, hr2, hf2⟩; rw [HLN.out, HG2.out] at he; subst he; have HR2 := Lib.hid (And.intro hr2 hf2); clear hr2 hf2 CA))
        go_roundg (R.length - (k + 1))
        case measure => omega
        case rel => exact ⟨k + 1, by go_num, by omega, Nat.le_refl _, by omega, Lib.hid (by rw [TK.out.1, TK.out.2]; exact HR2.out.1), Lib.hid ((FR.out.drewN _).trans HR2.out.2)⟩
      | false =>
        have hkk : calls stop R.length = k + 1 := by
          unfold goOn at hgB
          simp only [Bool.or_eq_false_iff, decide_eq_false_iff_not] at hgB
          unfold calls
          rw [if_neg hgB.1, Nat.min_eq_left (by omega)]
          omega
        have HK := Lib.hid hkk
        have HG2 : Hid (goOn stop k = false) := Lib.hid hgB
        clear hgB hkk hgo
        go_wp2_with (first | (go_at_call 77; refine CUT.out.mono ?_; rintro e w1 ⟨rfl, n, rfl⟩; clear CUT) | (go_at_call 71; refine (CA.out _).mono ?_; rintro e w2 ⟨he, hr2, hf2⟩; rw [HLN.out, HG2.out] at he; subst he; have HR2 := Lib.hid (And.intro hr2 hf2); clear hr2 hf2 CA))
        refine bodyPost_ret (results_none rfl _ _ _) rfl ⟨rfl, ?_, (FR.out.drewN _).trans HR2.out.2⟩
        rw [HK.out, TK.out.1, TK.out.2]
        exact HR2.out.1
    · have hkk : calls stop R.length = k := by
        unfold calls
        split
        · omega
        · rw [Nat.min_eq_right (by omega)]; omega
      have HK := Lib.hid hkk
      clear hkk hgo
      go_wp2
      go_end0
      refine ⟨rfl, ?_, FR.out⟩
      rw [HK.out]
      exact RC.out
end Go.Proofs.YthihppocokkoiaaDoor
