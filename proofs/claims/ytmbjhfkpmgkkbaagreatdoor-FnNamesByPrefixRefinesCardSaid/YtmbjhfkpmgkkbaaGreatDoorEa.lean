/-
  The walk of the environment's Each where a range's yield is its callback: it hands each pair's name and value to the rounds, in order. Conditions: those in each theorem.
-/
import Derived.Test.YtmbjhfkpmgkkbaaGreatDoorHb
import Derived.Test.YtmbjhfkpmgkkbaaGreatDoorRF
namespace Go.Proofs.YtmbjhfkpmgkkbaaGreatDoor
set_option linter.unusedVariables false
open Go.Shelf Go.RowKit Go.Lib Go.Sort
attribute [local go_sem] Oper.semAt_some

/-- a pair's name and value as texts -/
def nameB (x : List UInt8) : ByteArray := ⟨(Envp.nameOf x).toArray⟩
def valB (x : List UInt8) : ByteArray := ⟨(Envp.valOf x).toArray⟩
theorem cut_named {x : List UInt8} {i : Nat} (h : Envp.eqAt x = i) : nameB x = (⟨x.toArray⟩ : ByteArray).extract 0 i ∧ valB x = (⟨x.toArray⟩ : ByteArray).extract (i + 1) (⟨x.toArray⟩ : ByteArray).size := by
  unfold nameB valB Envp.nameOf Envp.valOf
  rw [h, Int.toNat_natCast]
  refine ⟨?_, ?_⟩
  · apply ByteArray.ext
    apply Array.toList_inj.1
    rw [ByteArray.data_extract, Array.toList_extract, List.extract_eq_take_drop]
    simp
  · apply ByteArray.ext
    apply Array.toList_inj.1
    rw [ByteArray.data_extract, Array.toList_extract, List.extract_eq_take_drop]
    show List.drop (i + 1) x = List.take _ (List.drop (i + 1) x)
    rw [List.take_of_length_le]
    simp [ByteArray.size]

/-- what a round is handed -/
def encV (x : List UInt8) : Array Value := #[.string (nameB x), .agg #[.bool true, .bool false, .bool true, .bool false, .int .u8 1, .string (valB x), .slice none 0 0, .map none, .slice none 0 0]]

theorem take_snoc {α : Type} {R : List α} {k : Nat} (h : k < R.length) : R.take (k + 1) = R.take k ++ [R[k]] := List.take_succ_eq_append_getElem h
theorem take_pre {α : Type} {R : List α} {k : Nat} (h : k < R.length) : R.take k ++ [R[k]] <+: R := by
  rw [← take_snoc h]; exact List.take_prefix _ _

set_option maxRecDepth 100000 in
set_option maxHeartbeats 8000000 in
theorem each97 (m B : Nat) (sv : Value) (R : List (List UInt8)) (w0 w : World) (hR : RowAt w0 B sv R) (hb0 : Below w0.heap.size w0 w) (hv : ∀ y ∈ R, Envp.valid y = true) (hlen : ∀ y ∈ R, y.length ≤ 1073741824) (hn : R.length ≤ 1073741824) :
    Gives Tryz.prog 97 (.agg #[.bool false, sv]) encV m w0.heap.size R w := by
  intro l J W hB hJ hY h0
  obtain ⟨a, cap, rfl, hcap, hm, hrow⟩ := hR
  have hni : (R.length : Int) ≤ 1073741824 := by omega
  have hbW : Below w0.heap.size w0 W := hb0.trans (hB.mono hb0.size)
  have CELL : Hid (∀ j (h : j < R.length), ∃ g, a = some ⟨g, 0, none⟩ ∧ g < w0.heap.size ∧ W.cell? ⟨g, j, none⟩ = some (.string ⟨R[j].toArray⟩)) := Lib.hid fun j h => by
    obtain ⟨g, ha, hg1, hg2, hH⟩ := hrow (by rintro rfl; simp at h)
    refine ⟨g, ha, hg2, ?_⟩
    have := (hH j (by simpa using h)).1
    rw [Nat.zero_add, getElem!_pos R.toArray j (by simpa using h)] at this
    rw [World.cell?_of_block (w := w0) (hbW.block g hg2)]
    simpa [encStr] using this
  have HV := Lib.hid hv
  have HLEN := Lib.hid hlen
  have H0 := Lib.hid hb0.size
  clear hrow hv hlen hbW hb0
  refine callsIn_of_wp Tryz.func97 rfl trivial ?_ rfl
  simp only [Tryz.ntmps97, List.size_toArray, List.length_cons, List.length_nil, Nat.reduceAdd, Nat.reduceSub, Array.replicate_succ, Array.replicate_zero, List.push_toArray, List.append_toArray, List.nil_append, List.cons_append]
  gi_wp2
  gi_loopw [12] (fun i wr => ∃ k : Nat, i = .int .i64 k ∧ (k : Int) ≤ (R.length : Int) ∧ J (R.take k) wr ∧ Hid (Below w0.heap.size W wr)) (fun i _ => R.length - (intOf i).toNat)
  case atStart =>
    have hb : Below W.heap.size W (W.alloc (.cells #[.bool false, .slice a R.length cap] 56)) := (Below.refl _ _).alloc (Nat.le_refl _) _
    exact ⟨0, rfl, by omega, hJ _ _ _ h0 hb, Lib.hid (hb.mono (Nat.le_trans H0.out hB.size))⟩
  case round =>
    obtain ⟨k, rfl, hk, hj, BW⟩ := hrel
    by_cases hlt : (k : Int) < (R.length : Int)
    · have hkn : k < R.length := by omega
      obtain ⟨gR, ha, hgE, hc⟩ := CELL.out k hkn
      subst ha
      obtain ⟨x, hxe⟩ : ∃ x, x = R[k] := ⟨_, rfl⟩
      have hx : wr.cell? ⟨gR, k, none⟩ = some (.string ⟨x.toArray⟩) := by rw [World.cell?_of_block (w := W) (BW.out.block gR hgE), hxe]; exact hc
      have hvx : Envp.valid x = true := by rw [hxe]; exact HV.out _ (List.getElem_mem hkn)
      have hlx : x.length ≤ 1073741824 := by rw [hxe]; exact HLEN.out _ (List.getElem_mem hkn)
      obtain ⟨i, hi, hi0⟩ := Envp.valid_at hvx
      obtain ⟨en, ev⟩ := cut_named hi
      have CUT := Lib.hid (cutEq_some ⟨x.toArray⟩ wr i hlx hi (nameB x) (valB x) (Lib.hid en) (Lib.hid ev))
      have TK : Hid (R.take (k + 1) = R.take k ++ [x]) := Lib.hid (by rw [take_snoc hkn, hxe])
      have PRE : R.take k ++ [x] <+: R := by rw [hxe]; exact take_pre hkn
      have YS : Hid (∀ n, YieldAt Fence.wide m Tryz.prog l (encV x) (wr.drewN n) fun e W' => e = .returned (.bool true) ∧ J (R.take k ++ [x]) W' ∧ Below w0.heap.size (wr.drewN n) W') := Lib.hid fun n => hY _ x _ (hJ _ _ _ hj (bel_drewN ⟨n, rfl⟩)) PRE
      clear hc hxe hvx hlx hi hi0 en ev PRE CELL
      gi_wp2_with (refine ⟨trivial, ?_⟩; gi_at_call 21; refine (callsIn_wide.2 CUT.out).mono ?_; rintro e w1 ⟨rfl, n, rfl⟩; obtain ⟨fn, tmps, assign, body, hy, hRd⟩ := YS.out n; dsimp only [encV] at hy; clear CUT)
      refine hRd.mono ?_
      rintro e W3 ⟨rfl, hJ3, hk3⟩
      have BW3 : Hid (Below w0.heap.size W W3) := Lib.hid ((BW.out.trans ((bel_drewN (w := wr) ⟨n, rfl⟩).mono (Nat.le_trans (Nat.le_trans H0.out hB.size) BW.out.size))).trans hk3)
      have HJ3 : Hid (J (R.take (k + 1)) W3) := Lib.hid (by rw [TK.out]; exact hJ3)
      clear hJ3 hk3 hy hRd YS TK BW hj
      gi_wp2
      go_roundw
      case rel => exact ⟨k + 1, by go_num, by omega, HJ3.out, BW3⟩
      case measure => simp [intOf]; omega
    · have hkk : k = R.length := by omega
      rw [hkk, List.take_length] at hj
      gi_wp2
      go_end0
      exact ⟨⟨_, rfl⟩, hj⟩
end Go.Proofs.YtmbjhfkpmgkkbaaGreatDoor
