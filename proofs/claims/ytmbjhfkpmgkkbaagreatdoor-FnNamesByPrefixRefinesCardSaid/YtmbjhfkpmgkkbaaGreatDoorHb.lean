/-
  The laws' helpers: the bound on the lengths, the sum of the lengths, the fresh copy, the prefix, the equality of two lists, the Config over a list environment. Conditions: those in each theorem.
-/
import Derived.Test.YtmbjhfkpmgkkbaaGreatDoorLe2
import Derived.Laws.MakeOwn
import Derived.Lib.SlBuf
namespace Go.Proofs.YtmbjhfkpmgkkbaaGreatDoor
set_option linter.unusedVariables false
open Go.Shelf Go.RowKit Go.Lib Go.Sort

theorem cell_heap {W : World} {b : Nat} {cs : Array Value} {t : TypeId} (h : W.heap[b]? = some (.cells cs t)) (j : Nat) (v : Value) (hv : cs[j]? = some v) : W.cell? ⟨b, j, none⟩ = some v := by simp [World.cell?, h, hv]
theorem frozen_heap {W : World} {b : Nat} {cs : Array Value} {t : TypeId} (h : W.heap[b]? = some (.cells cs t)) (j : Nat) : W.frozen? ⟨b, j, none⟩ = false := by simp [World.frozen?, h]
theorem heap_set {W : World} {b : Nat} {cs : Array Value} {t : TypeId} (h : W.heap[b]? = some (.cells cs t)) (j : Nat) (v : Value) : (W.setCell ⟨b, j, none⟩ v).heap[b]? = some (.cells (cs.setIfInBounds j v) t) := by
  simp [World.setCell, Array.getElem?_modify, h]
theorem holds_below {W W' : World} {B g : Nat} {d : Array (List UInt8)} (h : Holds encStr W g 0 d) (b : Below B W W') (hg : g < B) : Holds encStr W' g 0 d := fun j hj => by
  rw [World.cell?_of_block (w := W) (b.block g hg), World.frozen?_of_block (w := W) (b.block g hg)]; exact h j hj
theorem rowat_below {W W' : World} {B : Nat} {sv : Value} {R : List (List UInt8)} (h : RowAt W B sv R) (hb : Below W.heap.size W W') : RowAt W' B sv R := by
  obtain ⟨a, cap, h1, h2, h3, h4⟩ := h
  refine ⟨a, cap, h1, h2, h3, fun hne => ?_⟩
  obtain ⟨g, h5, h6, h7, h8⟩ := h4 hne
  exact ⟨g, h5, h6, by have := hb.size; omega, holds_below h8 hb h7⟩
theorem texts_cells {w : World} {a : Option Addr} {c : Nat} {P : List ByteArray} (hv : Texts w (.slice a P.length c) P) : P ≠ [] → ∃ b off, a = some ⟨b, off, none⟩ ∧ ∀ j, j < P.length → w.cell? ⟨b, off + j, none⟩ = some (.string (P.getD j ByteArray.empty)) := fun hne => by
  obtain ⟨a', c', h, hc⟩ := hv
  cases h
  obtain ⟨b, off, h1, _, h2⟩ := hc hne
  exact ⟨b, off, h1, h2⟩
theorem texts_below {w W : World} {v : Value} {P : List ByteArray} (hv : Texts w v P) (hB : Below w.heap.size w W) : Texts W v P := by
  obtain ⟨a, c, hv', hc⟩ := hv
  refine ⟨a, c, hv', fun hne => ?_⟩
  obtain ⟨b, off, ha, hb, hcell⟩ := hc hne
  exact ⟨b, off, ha, by have := hB.size; omega, fun j hj => by rw [World.cell?_of_block (w := w) (hB.block b hb)]; exact hcell j hj⟩

/-- what the bound on the lengths gives -/
def Small (P : List ByteArray) : Prop := P.length ≤ 1048576 ∧ ∀ j, j < P.length → (P.getD j ByteArray.empty).size ≤ 1048576
theorem small_mem {P : List ByteArray} (hS : Small P) : ∀ s ∈ P, s.size ≤ 1048576 := fun s hs => by
  obtain ⟨j, hj, rfl⟩ := List.mem_iff_getElem.1 hs
  have := hS.2 j hj
  simpa [List.getD, List.getElem?_eq_getElem hj] using this
/-- a guard says no, or it says yes and Q holds -/
def GuardSay (Q : Prop) (e : Ending) : Prop := ∃ b, e = .returned (.bool b) ∧ (b = true → Q)
theorem gs_no {Q : Prop} {e : Ending} (h : e = .returned (.bool false)) : GuardSay Q e := ⟨false, h, fun h => by cases h⟩
theorem gs_yes {Q : Prop} {e : Ending} (h : e = .returned (.bool true)) (q : Q) : GuardSay Q e := ⟨true, h, fun _ => q⟩

theorem sub_length {α : Type} [BEq α] [LawfulBEq α] : ∀ (R L : List α), R.Nodup → (∀ x ∈ R, x ∈ L) → R.length ≤ L.length
  | [], L, _, _ => by simp
  | x :: R, L, hn, hs => by
    rw [List.nodup_cons] at hn
    have hx := hs x (by simp)
    have := sub_length R (L.erase x) hn.2 (fun y hy => (List.mem_erase_of_ne (by rintro rfl; exact hn.1 hy)).2 (hs y (by simp [hy])))
    rw [List.length_erase_of_mem hx] at this
    have := List.length_pos_of_mem hx
    simp; omega
theorem env_length {L R : List (List UInt8)} (h : Envp.Env L R) : R.length ≤ L.length := by
  refine sub_length R L (h.inc.imp fun {a b} hab e => ?_) (fun y hy => (h.valid y hy).1)
  rw [e] at hab; exact Envp.blt_irr _ hab

set_option maxHeartbeats 1000000 in
theorem bytes5 (a : Option Addr) (c : Nat) (P : List ByteArray) (q : ByteArray) (w : World) (hc : P ≠ [] → ∃ b off, a = some ⟨b, off, none⟩ ∧ ∀ j, j < P.length → w.cell? ⟨b, off + j, none⟩ = some (.string (P.getD j ByteArray.empty))) :
    Calls Tryz.prog 5 #[.slice a P.length c, .string q] w fun e w' => GuardSay (Small P ∧ q.size ≤ 1048576) e ∧ w = w' := by
  go_enter Tryz.func5, Tryz.ntmps5
  by_cases hn : (1048576 : Int) < (P.length : Int)
  · go_wp2
    go_ret
    exact ⟨gs_no rfl, rfl⟩
  · go_wp2
    go_loop [5, 6] (fun v5 v6 => ∃ t k : Nat, v5 = .int .i64 t ∧ v6 = .int .i64 k ∧ (t : Int) ≤ 1048576 ∧ (k : Int) ≤ (P.length : Int) ∧ Hid (∀ j, j < k → (P.getD j ByteArray.empty).size ≤ 1048576)) (fun v5 v6 => P.length - (intOf v6).toNat)
    case atStart => exact ⟨P.length, 0, rfl, rfl, by omega, by omega, Lib.hid fun j hj => by omega⟩
    case round =>
      obtain ⟨t, k, rfl, rfl, ht, hk, HS⟩ := hrel
      by_cases hlt : (k : Int) < (P.length : Int)
      · obtain ⟨b, off, rfl, hcell⟩ := hc (by rintro rfl; simp at hlt; omega)
        have hx := hcell k (by omega)
        obtain ⟨s, hs⟩ : ∃ s, s = P.getD k ByteArray.empty := ⟨_, rfl⟩
        rw [← hs] at hx
        have HS2 : Hid (s.size ≤ 1048576 → ∀ j, j < k + 1 → (P.getD j ByteArray.empty).size ≤ 1048576) := Lib.hid fun h j hj => by
          by_cases e : j = k
          · subst e; rw [← hs]; exact h
          · exact HS.out j (by omega)
        clear hc hcell hs
        by_cases c1 : (1048576 : Int) < (s.size : Int)
        · go_wp2
          go_ret
          exact ⟨gs_no rfl, rfl⟩
        · by_cases c2 : (1048576 : Int) < (t : Int) + (s.size : Int)
          · go_wp2
            go_ret
            exact ⟨gs_no rfl, rfl⟩
          · go_wp2
            go_round
            case rel => exact ⟨t + s.size, k + 1, by go_num, by go_num, by omega, by omega, Lib.hid (HS2.out (by omega))⟩
            case measure => simp [intOf]; omega
      · have HF : Hid (Small P) := Lib.hid ⟨by omega, fun j hj => HS.out j (by omega)⟩
        clear hc
        by_cases c1 : (1048576 : Int) < (q.size : Int)
        · go_wp2
          go_ret
          exact ⟨gs_no rfl, rfl⟩
        · by_cases c2 : (1048576 : Int) < (t : Int) + (q.size : Int)
          · go_wp2
            go_ret
            exact ⟨gs_no rfl, rfl⟩
          · go_wp2
            go_ret
            exact ⟨gs_yes rfl ⟨HF.out, by omega⟩, rfl⟩

set_option maxHeartbeats 1000000 in
theorem bytes12 (a : Option Addr) (c : Nat) (P : List ByteArray) (q r : ByteArray) (w : World) (hc : P ≠ [] → ∃ b off, a = some ⟨b, off, none⟩ ∧ ∀ j, j < P.length → w.cell? ⟨b, off + j, none⟩ = some (.string (P.getD j ByteArray.empty))) :
    Calls Tryz.prog 12 #[.slice a P.length c, .string q, .string r] w fun e w' => GuardSay (Small P ∧ q.size ≤ 1048576 ∧ r.size ≤ 1048576) e ∧ w = w' := by
  go_enter Tryz.func12, Tryz.ntmps12
  by_cases hn : (1048576 : Int) < (P.length : Int)
  · go_wp2
    go_ret
    exact ⟨gs_no rfl, rfl⟩
  · go_wp2
    go_loop [7, 8] (fun v5 v6 => ∃ t k : Nat, v5 = .int .i64 t ∧ v6 = .int .i64 k ∧ (t : Int) ≤ 1048576 ∧ (k : Int) ≤ (P.length : Int) ∧ Hid (∀ j, j < k → (P.getD j ByteArray.empty).size ≤ 1048576)) (fun v5 v6 => P.length - (intOf v6).toNat)
    case atStart => exact ⟨P.length, 0, rfl, rfl, by omega, by omega, Lib.hid fun j hj => by omega⟩
    case round =>
      obtain ⟨t, k, rfl, rfl, ht, hk, HS⟩ := hrel
      by_cases hlt : (k : Int) < (P.length : Int)
      · obtain ⟨b, off, rfl, hcell⟩ := hc (by rintro rfl; simp at hlt; omega)
        have hx := hcell k (by omega)
        obtain ⟨s, hs⟩ : ∃ s, s = P.getD k ByteArray.empty := ⟨_, rfl⟩
        rw [← hs] at hx
        have HS2 : Hid (s.size ≤ 1048576 → ∀ j, j < k + 1 → (P.getD j ByteArray.empty).size ≤ 1048576) := Lib.hid fun h j hj => by
          by_cases e : j = k
          · subst e; rw [← hs]; exact h
          · exact HS.out j (by omega)
        clear hc hcell hs
        by_cases c1 : (1048576 : Int) < (s.size : Int)
        · go_wp2
          go_ret
          exact ⟨gs_no rfl, rfl⟩
        · by_cases c2 : (1048576 : Int) < (t : Int) + (s.size : Int)
          · go_wp2
            go_ret
            exact ⟨gs_no rfl, rfl⟩
          · go_wp2
            go_round
            case rel => exact ⟨t + s.size, k + 1, by go_num, by go_num, by omega, by omega, Lib.hid (HS2.out (by omega))⟩
            case measure => simp [intOf]; omega
      · have HF : Hid (Small P) := Lib.hid ⟨by omega, fun j hj => HS.out j (by omega)⟩
        clear hc
        by_cases c1 : (1048576 : Int) < (q.size : Int)
        · go_wp2
          go_ret
          exact ⟨gs_no rfl, rfl⟩
        · by_cases c2 : (1048576 : Int) < (t : Int) + (q.size : Int)
          · go_wp2
            go_ret
            exact ⟨gs_no rfl, rfl⟩
          · by_cases c3 : (1048576 : Int) < (r.size : Int)
            · go_wp2
              go_ret
              exact ⟨gs_no rfl, rfl⟩
            · by_cases c4 : (1048576 : Int) < (t : Int) + (q.size : Int) + (r.size : Int)
              · go_wp2
                go_ret
                exact ⟨gs_no rfl, rfl⟩
              · go_wp2
                go_ret
                exact ⟨gs_yes rfl ⟨HF.out, by omega, by omega⟩, rfl⟩

/-- the sum that zzB17StrsBytes hands back -/
def SumOut (e : Ending) : Prop := ∃ n : Nat, e = .returned (.int .i64 n) ∧ (n : Int) ≤ 4300000000
theorem so_mk {e : Ending} {n : Nat} (h : e = .returned (.int .i64 n)) (b : (n : Int) ≤ 4300000000) : SumOut e := ⟨n, h, b⟩

set_option maxRecDepth 20000 in
set_option maxHeartbeats 1000000 in
theorem sum6 (a : Option Addr) (c : Nat) (P : List ByteArray) (w : World) (hS : Small P) (hl : P.length ≤ 4096) (hc : P ≠ [] → ∃ b off, a = some ⟨b, off, none⟩ ∧ ∀ j, j < P.length → w.cell? ⟨b, off + j, none⟩ = some (.string (P.getD j ByteArray.empty))) :
    Calls Tryz.prog 6 #[.slice a P.length c] w fun e w' => SumOut e ∧ w = w' := by
  have hp : (P.length : Int) ≤ 4096 := by omega
  have HP := Lib.hid hS.2
  clear hS hl
  go_enter Tryz.func6, Tryz.ntmps6
  go_wp2
  go_loop [3, 4] (fun v3 v4 => ∃ t k : Nat, v3 = .int .i64 t ∧ v4 = .int .i64 k ∧ (k : Int) ≤ (P.length : Int) ∧ (t : Int) ≤ 8 * (P.length : Int) + 1048576 * (k : Int)) (fun v3 v4 => P.length - (intOf v4).toNat)
  case atStart => exact ⟨8 * P.length, 0, by go_num, rfl, by omega, by omega⟩
  case round =>
    obtain ⟨t, k, rfl, rfl, hk, ht⟩ := hrel
    have htb : (t : Int) ≤ 4295000064 := by omega
    by_cases hlt : (k : Int) < (P.length : Int)
    · obtain ⟨b, off, rfl, hcell⟩ := hc (by rintro rfl; simp at hlt; omega)
      have hx := hcell k (by omega)
      have hsz := HP.out k (by omega)
      obtain ⟨s, hs⟩ : ∃ s, s = P.getD k ByteArray.empty := ⟨_, rfl⟩
      rw [← hs] at hx hsz
      clear hc hcell hs
      go_wp2
      go_round
      case rel => exact ⟨t + s.size, k + 1, by go_num, by go_num, by omega, by omega⟩
      case measure => simp [intOf]; omega
    · clear hc
      go_wp2
      go_ret
      exact ⟨so_mk rfl (by omega), rfl⟩

theorem info9 : ∃ i z, Tryz.prog.info? 9 = some i ∧ i.zero = some z ∧ i.bytes = 16 ∧ i.size = 1 := by
  have h1 : (Tryz.prog.info? 9).map (·.size) = some 1 := by kernel_rfl
  have h2 : (Tryz.prog.info? 9).map (·.bytes) = some 16 := by kernel_rfl
  have h3 : ((Tryz.prog.info? 9).bind (·.zero)).isSome = true := by kernel_rfl
  cases h : Tryz.prog.info? 9 with
  | none => rw [h] at h1; cases h1
  | some i =>
    rw [h] at h1 h2 h3
    cases hz : i.zero with
    | none => simp [hz] at h3
    | some z => exact ⟨i, z, rfl, hz, by simpa using h2, by simpa using h1⟩
theorem make22 (w : World) (n : Nat) (hn : n ≤ 1048576) : ∃ cs : Array Value, cs.size = n ∧ (Instr.makeSlice 22 (.int .i64 (n : Int)) (.int .i64 (n : Int))).run Tryz.prog w = .ok (.slice (some ⟨w.heap.size, 0, none⟩) n n) (w.alloc (.cells cs 9)) := by
  obtain ⟨i, z, h1, h2, h3, h4⟩ := info9
  have := run_make (P := Tryz.prog) w 22 9 i z Tryz.underlying22 h1 h2 .i64 .i64 n n (by omega) (by omega) (by rw [h3]; omega) (by omega)
  rw [Int.toNat_natCast] at this
  exact ⟨_, by rw [size_madeCells, h4]; omega, this⟩

/-- the row under way: its first k cells are the texts' -/
structure CopyAt (P : List ByteArray) (w : World) (g k : Nat) (cs : Array Value) (wr : World) : Prop where
  size : cs.size = P.length
  heap : wr.heap[g]? = some (.cells cs 9)
  done : ∀ j, j < k → cs[j]? = some (.string (P.getD j ByteArray.empty))
  below : Below w.heap.size w wr
theorem CopyAt.step {P : List ByteArray} {w wr : World} {k : Nat} {cs : Array Value} (h : CopyAt P w w.heap.size k cs wr) (hk : k < P.length) :
    CopyAt P w w.heap.size (k + 1) (cs.setIfInBounds k (.string (P.getD k ByteArray.empty))) (wr.setCell ⟨w.heap.size, k, none⟩ (.string (P.getD k ByteArray.empty))) := by
  refine ⟨by simp [h.size], heap_set h.heap k _, fun j hj => ?_, h.below.setCell (Nat.le_refl _) _⟩
  rw [Array.getElem?_setIfInBounds]
  by_cases e : k = j
  · subst e
    rw [if_pos rfl, if_pos (by rw [h.size]; exact hk)]
  · rw [if_neg e]; exact h.done j (by omega)
theorem CopyAt.texts {P : List ByteArray} {w wr : World} {cs : Array Value} (h : CopyAt P w w.heap.size P.length cs wr) : Texts wr (.slice (some ⟨w.heap.size, 0, none⟩) P.length P.length) P := by
  refine ⟨_, _, rfl, fun _ => ⟨w.heap.size, 0, rfl, (Array.getElem?_eq_some_iff.1 h.heap).1, fun j hj => ?_⟩⟩
  rw [Nat.zero_add]
  exact cell_heap h.heap j _ (h.done j hj)
theorem CopyAt.drew {P : List ByteArray} {w wr : World} {g k : Nat} {cs : Array Value} (h : CopyAt P w g k cs wr) : CopyAt P w g k cs wr.drew := ⟨h.size, h.heap, h.done, h.below.drew⟩
/-- what a copier hands back -/
def CopyOut (w : World) (P : List ByteArray) (e : Ending) (w' : World) : Prop := (∃ v', e = .returned v' ∧ Texts w' v' P) ∧ Below w.heap.size w w'

set_option maxRecDepth 20000 in
set_option maxHeartbeats 1000000 in
theorem copy7 (v : Value) (P : List ByteArray) (w : World) (hv : Texts w v P) (hn : P.length ≤ 1048576) :
    Calls Tryz.prog 7 #[v] w (CopyOut w P) := by
  obtain ⟨a, c, rfl, hc⟩ := hv
  have q22 : ∀ (w : World) (a : Option Addr) (n c n' c' : Nat), (binOp .eql 22 (.slice a n c) (.slice none n' c')).run Tryz.prog w = .ok (.bool a.isNone) w := fun w a n c n' c' => Lib.run_eql_slice_nil w _ _ a n c n' c' Tryz.underlying22
  cases a with
  | none =>
    have hp : P = [] := by
      cases P with
      | nil => rfl
      | cons x P => obtain ⟨b, off, h, _⟩ := hc (by simp); cases h
    subst hp
    clear hc
    go_enter Tryz.func7, Tryz.ntmps7
    go_wp2
    go_ret
    exact ⟨⟨_, rfl, ⟨none, 0, rfl, fun h => absurd rfl h⟩⟩, Below.refl _ _⟩
  | some x =>
    obtain ⟨cs, hcs, hmk⟩ := make22 w P.length hn
    have C0 : Hid (CopyAt P w w.heap.size 0 cs (w.alloc (.cells cs 9))) := Lib.hid ⟨hcs, by show (w.heap.push _)[w.heap.size]? = _; exact Array.getElem?_push_size, fun j hj => by omega, (Below.refl _ _).alloc (Nat.le_refl _) _⟩
    have hn' : (P.length : Int) ≤ 1048576 := by omega
    generalize hW : w.alloc (.cells cs 9) = W1 at *
    have HC := Lib.hid hc
    clear hW hcs hc
    go_enter Tryz.func7, Tryz.ntmps7
    go_wp2
    go_loopg [4] (P.length) (fun g v4 wr => ∃ (k : Nat) (ck : Array Value), v4 = .int .i64 k ∧ (k : Int) ≤ (P.length : Int) ∧ P.length - k ≤ g ∧ Hid (CopyAt P w w.heap.size k ck wr))
    case atStart => exact ⟨0, cs, rfl, by omega, by omega, C0⟩
    case round =>
      clear C0 hmk
      obtain ⟨k, ck, rfl, hk, hg, CK⟩ := hrel
      by_cases hlt : (k : Int) < (P.length : Int)
      · have hkn : k < P.length := by omega
        obtain ⟨bb, off, hxx, hbb, hcell⟩ := HC.out (by rintro rfl; simp at hkn)
        cases hxx
        have hx := hcell k hkn
        rw [← World.cell?_of_block (w := w) (w' := wr) (a := ⟨bb, off + k, none⟩) (CK.out.below.block bb hbb)] at hx
        have hkc : k < ck.size := by rw [CK.out.size]; exact hkn
        have hy : wr.cell? ⟨w.heap.size, k, none⟩ = some ck[k] := cell_heap CK.out.heap k _ (Array.getElem?_eq_getElem hkc)
        have hf : wr.frozen? ⟨w.heap.size, k, none⟩ = false := frozen_heap CK.out.heap k
        have C2 := Lib.hid (CK.out.step hkn)
        generalize hp : P.getD k ByteArray.empty = p at hx C2
        generalize ck.setIfInBounds k (.string p) = ck2 at C2
        generalize ck[k] = old at hy
        clear hcell hp CK hkc
        go_wp2
        go_roundg (P.length - (k + 1))
        case measure => omega
        case rel => exact ⟨k + 1, ck2, by go_num, by omega, Nat.le_refl _, (by first | exact C2 | exact Lib.hid C2.out.drew)⟩
      · have hkk : k = P.length := by omega
        have TX : Hid (Texts wr (.slice (some ⟨w.heap.size, 0, none⟩) P.length P.length) P) := Lib.hid (by have h := CK.out; rw [hkk] at h; exact h.texts)
        have BW := Lib.hid CK.out.below
        clear CK HC hkk
        go_wp2
        go_ret
        exact ⟨⟨_, rfl, TX.out⟩, BW.out⟩

/-- a Config over a list environment -/
def CfgOut (w : World) (L : List (List UInt8)) (e : Ending) (w' : World) : Prop :=
  ∃ sv R g, e = .returned (.pointer (some ⟨g, 0, none⟩)) ∧ Envp.Env L R ∧ RowAt w' w.heap.size sv R ∧ w'.cell? ⟨g, 0, none⟩ = some (.iface 56 (.agg #[.bool false, sv])) ∧ w.heap.size ≤ g ∧ g < w'.heap.size ∧ Below w.heap.size w w'
set_option maxRecDepth 20000 in
set_option maxHeartbeats 1000000 in
theorem cfg8 (v : Value) (P : List ByteArray) (w : World) (hv : Texts w v P) (hP : ∀ s ∈ P, s.size ≤ 1073741824) (hn : P.length ≤ 1048576) : Calls Tryz.prog 8 #[v] w (CfgOut w (P.map (·.data.toList))) := by
  have ENV := Lib.hid (env_any v P w hv hP hn)
  clear hv hP hn
  go_enter Tryz.func8, Tryz.ntmps8
  go_wp2_with (first | (go_at_call 14; go_must (refine ENV.out.mono ?_); rintro e w2 ⟨sv, R, rfl, hE, hB2, hR⟩; have HI := Lib.hid (And.intro hE (And.intro hB2 hR)); clear hE hR hB2 ENV))
  go_ret
  have hb : ∀ o, Below w2.heap.size w2 (w2.alloc o) := fun o => (Below.refl _ _).alloc (Nat.le_refl _) o
  refine ⟨sv, R, w2.heap.size, rfl, HI.out.1, rowat_below HI.out.2.2 (hb _), ?_, HI.out.2.1.size, ?_, HI.out.2.1.alloc HI.out.2.1.size _⟩
  · refine cell_heap (by show (w2.heap.push _)[w2.heap.size]? = _; exact Array.getElem?_push_size) 0 _ rfl
  · show w2.heap.size < (w2.heap.push _).size
    rw [Array.size_push]; omega

/-! ## the prefix -/
theorem pre_long {s p : ByteArray} (h : (s.size : Int) < (p.size : Int)) : p.data.toList.isPrefixOf s.data.toList = false := by
  rw [Bool.eq_false_iff, Ne, List.isPrefixOf_iff_prefix]
  intro k
  have := k.length_le
  simp only [Array.length_toList] at this
  have h1 : p.data.size = p.size := rfl
  have h2 : s.data.size = s.size := rfl
  omega
theorem pre_ne {s p : ByteArray} {k : Nat} (hs : k < s.size) (hp : k < p.size) (h : s[k] ≠ p[k]) : p.data.toList.isPrefixOf s.data.toList = false := by
  rw [Bool.eq_false_iff, Ne, List.isPrefixOf_iff_prefix]
  intro e
  have h1 := Lib.data_getElem? s k hs
  have h2 := Lib.data_getElem? p k hp
  obtain ⟨hk, hk2⟩ := List.getElem?_eq_some_iff.1 h2
  obtain ⟨hk3, hk4⟩ := List.getElem?_eq_some_iff.1 h1
  have := e.getElem hk
  rw [hk2, hk4] at this
  exact h this.symm
theorem pre_end {s p : ByteArray} (h : p.size ≤ s.size) (HF : ∀ j, j < p.size → s.data.toList[j]? = p.data.toList[j]?) : p.data.toList.isPrefixOf s.data.toList = true := by
  rw [List.isPrefixOf_iff_prefix, List.prefix_iff_eq_take]
  apply List.ext_getElem?
  intro j
  have hl : p.data.toList.length = p.size := by simp
  rw [List.getElem?_take, hl]
  by_cases c : j < p.size
  · rw [if_pos c]; exact (HF j c).symm
  · rw [if_neg c, List.getElem?_eq_none (by omega)]
theorem pre_step {a b : ByteArray} {k : Nat} (ha : k < a.size) (hb : k < b.size) (h : a[k] = b[k]) (HF : ∀ j, j < k → a.data.toList[j]? = b.data.toList[j]?) : ∀ j, j < k + 1 → a.data.toList[j]? = b.data.toList[j]? := by
  intro j hj
  by_cases e : j = k
  · subst e; rw [Lib.data_getElem? a j ha, Lib.data_getElem? b j hb, h]
  · exact HF j (by omega)

set_option maxRecDepth 20000 in
set_option maxHeartbeats 1000000 in
theorem pre13 (s p : ByteArray) (w : World) (r : Bool) (hr : Hid (p.data.toList.isPrefixOf s.data.toList = r)) (hs : s.size ≤ 1073741824) : Calls Tryz.prog 13 #[.string s, .string p] w fun e w' => e = .returned (.bool r) ∧ Below w.heap.size w w' := by
  by_cases hsz : (s.size : Int) < (p.size : Int)
  · have R : Hid (r = false) := Lib.hid (hr.out.symm.trans (pre_long hsz))
    go_enter Tryz.func13, Tryz.ntmps13
    go_wp2
    go_ret
    exact ⟨by rw [R.out]; rfl, Below.refl _ _⟩
  · go_enter Tryz.func13, Tryz.ntmps13
    go_wp2
    go_loopg [5] (p.size) (fun g v4 wr => ∃ k : Nat, v4 = .int .i64 k ∧ (k : Int) ≤ (p.size : Int) ∧ p.size - k ≤ g ∧ Hid (∀ j, j < k → s.data.toList[j]? = p.data.toList[j]?) ∧ Hid (Below w.heap.size w wr))
    case atStart => exact ⟨0, rfl, by omega, by omega, Lib.hid fun j hj => by omega, Lib.hid (Below.refl _ _)⟩
    case round =>
      obtain ⟨k, rfl, hk, hg, HF, BW⟩ := hrel
      by_cases hlt : (k : Int) < (p.size : Int)
      · have hb : k < p.size := by omega
        have ha : k < s.size := by omega
        have hbi : (k : Int) < (s.size : Int) := by omega
        by_cases c : s[k] = p[k]
        · have HF2 := Lib.hid (pre_step ha hb c HF.out)
          have c' : ((s[k].toNat : Nat) : Int) = ((p[k].toNat : Nat) : Int) := by rw [c]
          clear c
          go_wp2
          go_big_region
          go_wp2
          go_roundg (p.size - (k + 1))
          case measure => omega
          case rel => exact ⟨k + 1, by go_num, by omega, Nat.le_refl _, HF2, Lib.hid BW.out.drew⟩
        · have R : Hid (r = false) := Lib.hid (hr.out.symm.trans (pre_ne ha hb c))
          have c' : ¬ ((s[k].toNat : Nat) : Int) = ((p[k].toNat : Nat) : Int) := fun h => c (Lib.byte_eq_of_toNat h)
          clear c
          go_wp2
          go_big_region
          have c2 : (((s[k].toNat : Nat) : Int) != ((p[k].toNat : Nat) : Int)) = true := by simpa using c'
          go_wp2
          go_ret
          exact ⟨by rw [R.out]; rfl, BW.out.drew⟩
      · have R : Hid (r = true) := Lib.hid (hr.out.symm.trans (pre_end (by omega) (fun j hj => HF.out j (by omega))))
        go_wp2
        go_ret
        exact ⟨by rw [R.out]; rfl, BW.out⟩

set_option maxRecDepth 20000 in
set_option maxHeartbeats 4000000 in
/-- two lists of the same texts are found equal -/
theorem eq11 (a a' : Option Addr) (c c' : Nat) (P : List ByteArray) (w : World) (hn : (P.length : Int) ≤ 1048576) (hv : Texts w (.slice a P.length c) P) (hv' : Texts w (.slice a' P.length c') P) :
    Calls Tryz.prog 11 #[.slice a P.length c, .slice a' P.length c'] w fun e w' => e = .returned (.bool true) ∧ ∃ n, w' = w.drewN n := by
  have HC := Lib.hid (And.intro (texts_cells hv) (texts_cells hv'))
  clear hv hv'
  go_enter Tryz.func11, Tryz.ntmps11
  go_wp2
  go_loopg [5] (P.length) (fun g v4 wr => ∃ k : Nat, v4 = .int .i64 k ∧ (k : Int) ≤ (P.length : Int) ∧ P.length - k ≤ g ∧ Hid (∃ n, wr = w.drewN n))
  case atStart => exact ⟨0, rfl, by omega, by omega, Lib.hid ⟨0, rfl⟩⟩
  case round =>
    obtain ⟨k, rfl, hk, hg, DR⟩ := hrel
    obtain ⟨n, rfl⟩ := DR.out
    clear DR
    by_cases hlt : (k : Int) < (P.length : Int)
    · obtain ⟨b, off, rfl, hcell⟩ := HC.out.1 (by rintro rfl; simp at hlt; omega)
      obtain ⟨b', off', rfl, hcell'⟩ := HC.out.2 (by rintro rfl; simp at hlt; omega)
      have hx : w.cell? ⟨b, off + k, none⟩ = some (.string (P.getD k ByteArray.empty)) := hcell k (by omega)
      have hx' : w.cell? ⟨b', off' + k, none⟩ = some (.string (P.getD k ByteArray.empty)) := hcell' k (by omega)
      generalize P.getD k ByteArray.empty = y at hx hx'
      have qy : (y.toList == y.toList) = true := by simp
      clear hcell hcell'
      go_wp2
      go_region
      go_wp2
      go_roundg (P.length - (k + 1))
      case measure => omega
      case rel => exact ⟨k + 1, by go_num, by omega, Nat.le_refl _, Lib.hid ⟨n + 1, rfl⟩⟩
    · go_wp2
      go_ret
      exact ⟨rfl, n, rfl⟩
end Go.Proofs.YtmbjhfkpmgkkbaaGreatDoor
