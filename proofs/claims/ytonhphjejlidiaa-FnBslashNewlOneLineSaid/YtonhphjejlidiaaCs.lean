/-
  The walk of the column counter's WriteString: a loop over the text's bytes, then the writer's own. Conditions: those in each theorem.
-/
import Derived.Test.YtonhphjejlidiaaPr
import Derived.Lib.ConvBytes
namespace Go.Proofs.Ytonhphjejlidiaa
set_option linter.unusedVariables false
open Go.Shelf Go.RowKit Go.Lib

theorem PS.grew {B b k r p tw : Nat} {kp : Bool} {out : List UInt8} {f : PF} {v : Value} {w w' : World} (h : PS B b k r p tw kp out f v w) (hh : ∀ i, i < w.heap.size → w'.heap[i]? = w.heap[i]?) : PS B b k r p tw kp out f v w' := by
  obtain ⟨fl, pend, rc, ho, hb⟩ := h.bs
  refine ⟨⟨fl, pend, rc, ho, hb.kept ?_ fun g hg => hh g (hb.buf.own_lt g hg).1⟩, (hh p h.lt).trans h.pr, h.npb, h.npk, h.npr, h.own, h.lp⟩
  rintro i (rfl | rfl | rfl)
  · exact hh _ hb.buf.lt
  · exact hh _ (Lib.lt_of_heap hb.wr)
  · exact hh _ (Lib.lt_of_heap hb.row)

theorem fr_bytes (S : Nat → Prop) (v : Value) (w : World) (s : ByteArray) : FrS S v v w (Lib.bytesWorld w 5 s) :=
  ⟨rfl, rfl, rfl, by rw [Lib.bytesWorld_size]; omega, fun i hi _ _ => Lib.bytesWorld_at_old w 5 s i hi, .inl rfl⟩

theorem stepL_col (f : PF) (l : List UInt8) (n : Nat) (h : l.length ≤ n) : (stepL true f l).col ≤ f.col + 1 + n := by
  have := addL_le l (f.col, f.ls)
  show (addL (f.col, f.ls) l).1 ≤ _
  simp only at this
  omega

/-- the loop's head -/
structure AtC (k p tw N : Nat) (f : PF) (s : ByteArray) (w2 wr : World) (j : Nat) : Prop where
  pr : wr.heap[p]? = some (.cells (pcells true k p tw (stepL true f (s.data.toList.take j))) 87 (0, 0))
  fr : ∀ v, FrS (P1 p) v v w2 wr

set_option maxRecDepth 20000 in
set_option maxHeartbeats 2000000 in
theorem str143 (B b k r p tw : Nat) (out : List UInt8) (f : PF) (v : Value) (s : ByteArray) (w : World) (h : PS B b k r p tw true out f v w) (hl : out.length + s.size + 4096 ≤ 1073741824) (hc : f.col + s.size + 1 ≤ 1073741824) :
    Calls Try.prog 143 #[.pointer (some ⟨p, 2, none⟩), .string s] w (PEmit B b k r p tw true (out ++ s.data.toList) (stepL true f s.data.toList) v w (.tuple #[.int .i64 s.size, .nilIface])) := by
  have H := Lib.hid h
  have cv := Lib.run_convert_string_bytes (P := Try.prog) w 9 54 5 s Try.underlying9 Try.underlying54 Try.underlying5
  have hpN : p ≠ w.heap.size := by have := h.lt; omega
  have H2 := Lib.hid (h.grew (w' := Lib.bytesWorld w 5 s) (fun i hi => Lib.bytesWorld_at_old w 5 s i hi))
  have BC : Hid (∀ j, j < s.size → (Lib.bytesWorld w 5 s).cell? ⟨w.heap.size, j, none⟩ = some (.int .u8 (s.data.toList.getD j 0).toNat)) := Lib.hid fun j hj => Lib.bytesWorld_cell w 5 s j hj
  have F0 : Hid (FrS (S4 b k r p) v v w (Lib.bytesWorld w 5 s)) := Lib.hid (fr_bytes _ _ _ _)
  have NS : Hid (w.heap.size < (Lib.bytesWorld w 5 s).heap.size) := Lib.hid (by rw [Lib.bytesWorld_size]; omega)
  obtain ⟨cap, hcap⟩ : ∃ cap, cap = grownCap w s.size 0 5 := ⟨_, rfl⟩
  rw [← hcap] at cv
  generalize hw2 : Lib.bytesWorld w 5 s = w2 at *
  obtain ⟨N, hN⟩ : ∃ N, N = w.heap.size := ⟨_, rfl⟩
  rw [← hN] at cv hpN BC NS
  have A0 : Hid (AtC k p tw N f s w2 w2 0) := Lib.hid ⟨by rw [List.take_zero, stepL_nil]; exact H2.out.pr, fun v => FrS.refl _ _ _⟩
  have hsz : (s.size : Int) ≤ 1073741824 := by omega
  clear h hw2 hcap hN
  go_enter Try.func143, Try.ntmps143
  go_wp2
  go_loopg [11] (s.size) (fun g v11 wr => ∃ (j : Nat), v11 = .int .i64 j ∧ (j : Int) ≤ (s.size : Int) ∧ s.size - j ≤ g ∧ Hid (AtC k p tw N f s w2 wr j))
  case atStart => exact ⟨0, rfl, by omega, by omega, A0⟩
  case round =>
    clear A0
    obtain ⟨j, rfl, hj, hg, AT⟩ := hrel
    by_cases hlt : (j : Int) < (s.size : Int)
    · have hjn : j < s.size := by omega
      have hx : wr.cell? ⟨N, j, none⟩ = some (.int .u8 (s.data.toList.getD j 0).toNat) := by
        rw [World.cell?_of_block (w := w2) ((AT.out.fr (.slice none 0 0)).block N NS.out (fun e => hpN e.symm) (by simp [Value.ownBlock]))]
        exact BC.out j hjn
      obtain ⟨c, hcc⟩ : ∃ c, c = s.data.toList.getD j 0 := ⟨_, rfl⟩
      rw [← hcc] at hx
      have A := Lib.hid (add144 k p tw _ c wr AT.out.pr (by have := stepL_col f (s.data.toList.take j) s.size (by rw [List.length_take]; have : s.data.toList.length = s.size := by simp
                                                                                                                  omega); omega))
      have HT : Hid (s.data.toList.take (j + 1) = s.data.toList.take j ++ [c]) := Lib.hid (by
        have hjl : j < s.data.toList.length := by simpa using hjn
        rw [List.take_add_one, hcc, List.getD, List.getElem?_eq_getElem hjl]; rfl)
      clear hcc
      go_wp2_with (go_at_call 144; refine A.out.mono ?_; rintro e w3 ⟨rfl, h1, h2⟩; have A1 : Hid (AtC k p tw N f s w2 w3 (j + 1)) := (Lib.hid ⟨by rw [HT.out, ← stepL_one]; exact h1, fun v => (AT.out.fr v).trans (h2 v)⟩); clear h1 h2 A)
      go_roundg (s.size - (j + 1))
      case measure => omega
      case rel => exact ⟨j + 1, by go_num, by omega, Nat.le_refl _, A1⟩
    · have hjj : j = s.size := by omega
      have hpp := AT.out.pr
      rw [hjj, List.take_of_length_le (by simp)] at hpp
      have H3 := Lib.hid (H2.out.turned hpp AT.out.fr)
      have FRR := Lib.hid ((AT.out.fr v).mono (S' := S4 b k r p) (fun i hi => .inr hi))
      have c2 : wr.cell? ⟨p, 2, none⟩ = some (.pointer (some ⟨k, 0, none⟩)) := by rw [H3.out.c]; rfl
      have WB := Lib.hid (bw_str B b k r out v s wr H3.out.bs H3.out.ge hl)
      clear hpp AT hjj
      go_wp2_with (go_at_call 130; refine WB.out.mono ?_; rintro e w4 ⟨rfl, v', h3, h4⟩; have H5 := Lib.hid (H3.out.wrote h3 h4); have H4 := Lib.hid h4; clear h3 h4 WB)
      go_ret2
      exact ⟨rfl, v', H5.out, (F0.out.trans FRR.out).trans (H4.out.mono fun i hi => .inl hi)⟩
end Go.Proofs.Ytonhphjejlidiaa
