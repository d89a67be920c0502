/-
  bytes.Buffer's Write of another block's bytes and WriteString, with the frame that every other block stays. Conditions: those in each theorem.
-/
import Derived.Test.YtonhphjejlidiaaBuf
namespace Go.Proofs.Ytonhphjejlidiaa
set_option linter.unusedVariables false
open Go.Shelf Go.RowKit Go.Lib

/-- grow, where there is no room -/
theorem buf_grow (b n : Nat) (l : List UInt8) (v : Value) (w : World) (h : BufS b l v w) (hn : 1 ≤ n) (hlim : l.length + n ≤ 1073741824) (hno : Lib.NoRoom b n w) :
    Calls Try.prog 96 #[.pointer (some ⟨b, 0, none⟩), .int .i64 n] w (GrowOut b n l v w) := by
  obtain ⟨⟨lr, hb⟩, hr⟩ := h
  obtain ⟨ao, l0, cap0, hc, hlt⟩ := hno
  rw [Lib.cell_of_heap hb] at hc
  cases hc
  rcases hr with ⟨rfl, e⟩ | ⟨hne, g, cap, cur, e, hg, h1, h2, h3, h4, h5⟩
  · cases e
    by_cases h64 : n ≤ 64
    · exact grow_nil_small b n lr w hb hn h64
    · exact grow_nil_big b n lr w hb (by omega) (by simpa using hlim)
  · cases e
    exact grow_row b g _ n lr l cur w hb hg h1 h2 h3 h4 h5 hne hn hlt hlim

theorem BufS.setLast {b : Nat} {l : List UInt8} {v : Value} {w : World} (h : BufS b l v w) (x : Int) : BufS b l v (w.setCell ⟨b, 2, none⟩ (.int .i8 x)) := by
  obtain ⟨⟨lr, hb⟩, hr⟩ := h
  refine ⟨⟨x, Lib.heap_setCell_same (i := 2) hb _⟩, hr.imp id fun ⟨hne, g, cap, cur, e, hg, h1, h2, h3, h4, h5⟩ => ⟨hne, g, cap, cur, e, ?_, h1, h2, h3, h4, h5⟩⟩
  rw [Below.heap_setCell _ _ _ _ h5]; exact hg

/-- a reslice within the capacity -/
theorem BufS.roomy {b n g cap : Nat} {l : List UInt8} {cur : Array Value} {w : World} {lr : Int} (hb : w.heap[b]? = some (.cells #[.slice (some ⟨g, 0, none⟩) l.length cap, .int .i64 0, .int .i8 lr] 67 (0, 0)))
    (hg : w.heap[g]? = some (.cells cur 5 (0, 0))) (hcm : cap ≤ maxLen) (hcs : cur.size = cap) (ht : cur.toList.take l.length = Lib.byteCells l) (hgb : g ≠ b) (hr : l.length + n ≤ cap) :
    Roomy b n l (.slice (some ⟨g, 0, none⟩) l.length cap) w ((w.setCell ⟨b, 2, none⟩ (.int .i8 0)).setCell ⟨b, 0, none⟩ (.slice (some ⟨g, 0, none⟩) (l.length + n) cap)) g cap cur :=
  ⟨⟨0, Lib.heap_setCell_same (i := 0) (Lib.heap_setCell_same (i := 2) hb _) _⟩, by rw [Below.heap_setCell _ _ _ _ hgb, Below.heap_setCell _ _ _ _ hgb]; exact hg, hcs, ht, hr, hcm, hgb, Lib.grownBy_setB (Lib.grownBy_setCell w b 2 _) 0 _, .inl rfl⟩

/-- what a write hands back -/
def WriteOut (b n : Nat) (l m : List UInt8) (v : Value) (w : World) (e : Ending) (w' : World) : Prop :=
  e = .returned (.tuple #[.int .i64 n, .nilIface]) ∧ ∃ v', BufS b (l ++ m) v' w' ∧ Fr b v v' w w'
theorem wo_mk {b n : Nat} {l m : List UInt8} {v : Value} {w W1 : World} {N cap2 : Nat} {cells : Array Value} {e : Ending} {w' : World} (h : Roomy b n l v w W1 N cap2 cells) (hm : m.length = n) (h1 : 1 ≤ n) (he : e = .returned (.tuple #[.int .i64 n, .nilIface]))
    (hw : w' = W1.setRow N (cells.toList.take l.length ++ Lib.byteCells m ++ cells.toList.drop (l.length + n)).toArray) : WriteOut b n l m v w e w' := by
  subst hw
  exact ⟨he, _, (h.written hm h1).1, (h.written hm h1).2⟩

theorem hinfo5 : (Try.prog.info? 5).map (·.size) = some 1 := by kernel_rfl

theorem copy_src {b n r c k : Nat} {l m : List UInt8} {v : Value} {w W1 : World} {N cap2 : Nat} {cells rc : Array Value} (h : Roomy b n l v w W1 N cap2 cells) (hr : w.heap[r]? = some (.cells rc 5 (0, 0))) (hrb : r ≠ b) (ht : rc.toList.take n = Lib.byteCells m) (hm : m.length = n) (hk : k = cap2 - l.length) (ty : TypeId) :
    (Builtin.copy_ #[54, 54] ty #[.slice (some ⟨N, l.length, none⟩) n k, .slice (some ⟨r, 0, none⟩) n c]).run Try.prog W1 = .ok (goInt n) (W1.setRow N (cells.toList.take l.length ++ Lib.byteCells m ++ cells.toList.drop (l.length + n)).toArray) := by
  have hbm : (Lib.byteCells m).length = n := by rw [Lib.byteCells_length, hm]
  have hr1 : W1.heap[r]? = some (.cells rc 5 (0, 0)) := (h.grown.block r (Lib.lt_of_heap hr) (fun e => hrb (Option.some.inj e))).trans hr
  have hro := h.room
  have hcs := h.csize
  have := run_copy_row (P := Try.prog) W1 54 54 ty 5 N l.length n k ⟨r, 0, none⟩ n c cells 5 (Lib.byteCells m) Try.underlying54 hinfo5 h.row (by rw [hbm]; exact (Nat.min_self n).symm) (fun j x hj => Lib.cells_of_row hr1 n j x (by rw [ht]; exact hj)) (by rw [hbm]; omega) (Lib.byteCells_one _)
  rw [hbm] at this
  exact this

theorem copy_str {b : Nat} {l : List UInt8} {v : Value} {w W1 : World} {N cap2 k : Nat} {cells : Array Value} {s : ByteArray} (h : Roomy b s.size l v w W1 N cap2 cells) (ty : TypeId) :
    (Builtin.copy_ #[54, 9] ty #[.slice (some ⟨N, l.length, none⟩) s.size k, .string s]).run Try.prog W1 = .ok (goInt s.size) (W1.setRow N (cells.toList.take l.length ++ Lib.byteCells s.data.toList ++ cells.toList.drop (l.length + s.size)).toArray) := by
  have hro := h.room
  have hcs := h.csize
  exact Lib.run_copy_row_string (P := Try.prog) W1 54 9 ty 5 N l.length s.size k s cells 5 Try.underlying54 hinfo5 h.row (Nat.le_refl _) (by omega)

set_option maxHeartbeats 2000000 in
set_option maxRecDepth 100000 in
theorem buf_write (b r n c : Nat) (l m : List UInt8) (v : Value) (rc : Array Value) (w : World) (h : BufS b l v w) (hr : w.heap[r]? = some (.cells rc 5 (0, 0))) (hrb : r ≠ b) (ht : rc.toList.take n = Lib.byteCells m) (hm : m.length = n) (h1 : 1 ≤ n) (hlim : l.length + n ≤ 1073741824) :
    Calls Try.prog 92 #[.pointer (some ⟨b, 0, none⟩), .slice (some ⟨r, 0, none⟩) n c] w (WriteOut b n l m v w) := by
  obtain ⟨⟨lr, hb⟩, hr0⟩ := id h
  have c2 : w.cell? ⟨b, 2, none⟩ = some (.int .i8 lr) := by rw [Lib.cell_of_heap hb]; rfl
  have f2 : w.frozen? ⟨b, 2, none⟩ = false := Lib.frozen_of_heap hb 2
  have h' := h.setLast 0
  have hb' := Lib.heap_setCell_same (i := 2) hb (.int .i8 0)
  have c0 : (w.setCell ⟨b, 2, none⟩ (.int .i8 0)).cell? ⟨b, 0, none⟩ = some v := by rw [Lib.cell_of_heap hb']; rfl
  have f0 : (w.setCell ⟨b, 2, none⟩ (.int .i8 0)).frozen? ⟨b, 0, none⟩ = false := Lib.frozen_of_heap hb' 0
  have CPY := fun (W1 : World) (N cap2 k : Nat) (cells : Array Value) (H : Roomy b n l v w W1 N cap2 cells) (hk : k = cap2 - l.length) (ty : TypeId) => copy_src (c := c) H hr hrb ht hm hk ty
  have hgr : w.grownBy (w.setCell ⟨b, 2, none⟩ (.int .i8 0)) (some b) := Lib.grownBy_setCell w b 2 _
  by_cases hroom : ∃ g cap cur, v = .slice (some ⟨g, 0, none⟩) l.length cap ∧ w.heap[g]? = some (.cells cur 5 (0, 0)) ∧ l.length ≤ cap ∧ cap ≤ maxLen ∧ cur.size = cap ∧ cur.toList.take l.length = Lib.byteCells l ∧ g ≠ b ∧ n ≤ cap - l.length
  · obtain ⟨g, cap, cur, rfl, hg, k1, k2, k3, k4, k5, k6⟩ := hroom
    have HR := Lib.hid (BufS.roomy hb hg k2 k3 k4 k5 (show l.length + n ≤ cap by omega))
    clear hb hr0 hg h h' hb'
    go_enter Try.func92, Try.ntmps92
    unfold maxLen at k2
    have hne : ¬ cap = l.length := by omega
    go_wp2_with (go_at_call 95; refine (Try.Buffer_tryGrow_room b _ l.length cap n _ c0 f0 k1 (by unfold maxLen; exact k2) k6).mono ?_; rintro e W1 ⟨rfl, hW1⟩; rw [← hW1] at HR; clear hW1 c0 f0 c2 f2 hgr; have d0 : W1.cell? ⟨b, 0, none⟩ = some (.slice (some ⟨g, 0, none⟩) (l.length + n) cap) := (by obtain ⟨lr2, hx⟩ := HR.out.head; rw [Lib.cell_of_heap hx]; rfl); have hcp := CPY W1 g cap (cap - l.length) cur HR.out rfl; clear CPY)
    go_ret2
    exact wo_mk HR.out hm h1 rfl (by simp only [List.append_assoc, HR.out.taken])
  · have hno : Lib.NoRoom b n (w.setCell ⟨b, 2, none⟩ (.int .i8 0)) := by
      rcases hr0 with ⟨rfl, rfl⟩ | ⟨hne, g, cap, cur, rfl, hg, k1, k2, k3, k4, k5⟩
      · exact ⟨_, _, _, c0, by omega⟩
      · exact ⟨_, _, _, c0, by
          rcases Nat.lt_or_ge (cap - l.length) n with q | q
          · exact q
          · exact absurd ⟨g, cap, cur, rfl, hg, k1, k2, k3, k4, k5, q⟩ hroom⟩
    obtain ⟨ao, l0, cap0, hc0, hlt⟩ := id hno
    have k12 : l0 ≤ cap0 ∧ cap0 ≤ maxLen := by
      rw [c0] at hc0; cases hc0
      rcases hr0 with ⟨_, e⟩ | ⟨hne, g, cap, cur, e, hg, k1, k2, k3, k4, k5⟩
      · cases e; exact ⟨Nat.le_refl _, Nat.zero_le _⟩
      · cases e; exact ⟨k1, k2⟩
    have GR := Lib.hid (buf_grow b n l v _ h' h1 hlim hno)
    have HG := Lib.hid hgr
    clear hb hr0 hroom hb' h h' hno c0 hgr
    go_enter Try.func92, Try.ntmps92
    go_wp2_with (first | (go_at_call 95; refine (Try.Buffer_tryGrow_none b _ l0 cap0 n _ hc0 k12.1 k12.2 hlt).mono ?_; rintro e W0 ⟨rfl, hW0⟩; rw [hW0]; clear hlt k12 hc0 hW0) | (go_at_call 96; refine GR.out.mono ?_; rintro e W1 ⟨rfl, N, cap2, cells, hR⟩; have HR := Lib.hid (hR.drop HG.out); clear hR HG GR; have d0 : W1.cell? ⟨b, 0, none⟩ = some (.slice (some ⟨N, 0, none⟩) (l.length + n) cap2) := (by obtain ⟨lr2, hx⟩ := HR.out.head; rw [Lib.cell_of_heap hx]; rfl); have hcp := CPY W1 N cap2 (cap2 - l.length) cells HR.out rfl; have hne : ¬ cap2 = l.length := (by have := HR.out.room; omega); have k1 : l.length + n ≤ cap2 := HR.out.room; have k2 : cap2 ≤ 9223372036854775807 := HR.out.lim; clear CPY))
    go_ret2
    exact wo_mk HR.out hm h1 rfl (by simp only [List.append_assoc, HR.out.taken])
set_option maxHeartbeats 2000000 in
set_option maxRecDepth 100000 in
theorem buf_writeString (b : Nat) (l : List UInt8) (s : ByteArray) (v : Value) (w : World) (h : BufS b l v w) (h1 : 1 ≤ s.size) (hlim : l.length + s.size ≤ 1073741824) :
    Calls Try.prog 94 #[.pointer (some ⟨b, 0, none⟩), .string s] w (WriteOut b s.size l s.data.toList v w) := by
  obtain ⟨⟨lr, hb⟩, hr0⟩ := id h
  have c2 : w.cell? ⟨b, 2, none⟩ = some (.int .i8 lr) := by rw [Lib.cell_of_heap hb]; rfl
  have f2 : w.frozen? ⟨b, 2, none⟩ = false := Lib.frozen_of_heap hb 2
  have h' := h.setLast 0
  have hb' := Lib.heap_setCell_same (i := 2) hb (.int .i8 0)
  have c0 : (w.setCell ⟨b, 2, none⟩ (.int .i8 0)).cell? ⟨b, 0, none⟩ = some v := by rw [Lib.cell_of_heap hb']; rfl
  have f0 : (w.setCell ⟨b, 2, none⟩ (.int .i8 0)).frozen? ⟨b, 0, none⟩ = false := Lib.frozen_of_heap hb' 0
  have CPY := fun (W1 : World) (N cap2 k : Nat) (cells : Array Value) (H : Roomy b s.size l v w W1 N cap2 cells) (hk : k = cap2 - l.length) (ty : TypeId) => copy_str (k := k) H ty
  have hgr : w.grownBy (w.setCell ⟨b, 2, none⟩ (.int .i8 0)) (some b) := Lib.grownBy_setCell w b 2 _
  by_cases hroom : ∃ g cap cur, v = .slice (some ⟨g, 0, none⟩) l.length cap ∧ w.heap[g]? = some (.cells cur 5 (0, 0)) ∧ l.length ≤ cap ∧ cap ≤ maxLen ∧ cur.size = cap ∧ cur.toList.take l.length = Lib.byteCells l ∧ g ≠ b ∧ s.size ≤ cap - l.length
  · obtain ⟨g, cap, cur, rfl, hg, k1, k2, k3, k4, k5, k6⟩ := hroom
    have HR := Lib.hid (BufS.roomy hb hg k2 k3 k4 k5 (show l.length + s.size ≤ cap by omega))
    clear hb hr0 hg h h' hb'
    go_enter Try.func94, Try.ntmps94
    unfold maxLen at k2
    have hne : ¬ cap = l.length := by omega
    go_wp2_with (go_at_call 95; refine (Try.Buffer_tryGrow_room b _ l.length cap s.size _ c0 f0 k1 (by unfold maxLen; exact k2) k6).mono ?_; rintro e W1 ⟨rfl, hW1⟩; rw [← hW1] at HR; clear hW1 c0 f0 c2 f2 hgr; have d0 : W1.cell? ⟨b, 0, none⟩ = some (.slice (some ⟨g, 0, none⟩) (l.length + s.size) cap) := (by obtain ⟨lr2, hx⟩ := HR.out.head; rw [Lib.cell_of_heap hx]; rfl); have hcp := CPY W1 g cap (cap - l.length) cur HR.out rfl; clear CPY)
    go_ret2
    exact wo_mk HR.out (by simp) h1 rfl (by simp only [List.append_assoc, HR.out.taken])
  · have hno : Lib.NoRoom b s.size (w.setCell ⟨b, 2, none⟩ (.int .i8 0)) := by
      rcases hr0 with ⟨rfl, rfl⟩ | ⟨hne, g, cap, cur, rfl, hg, k1, k2, k3, k4, k5⟩
      · exact ⟨_, _, _, c0, by omega⟩
      · exact ⟨_, _, _, c0, by
          rcases Nat.lt_or_ge (cap - l.length) s.size with q | q
          · exact q
          · exact absurd ⟨g, cap, cur, rfl, hg, k1, k2, k3, k4, k5, q⟩ hroom⟩
    obtain ⟨ao, l0, cap0, hc0, hlt⟩ := id hno
    have k12 : l0 ≤ cap0 ∧ cap0 ≤ maxLen := by
      rw [c0] at hc0; cases hc0
      rcases hr0 with ⟨_, e⟩ | ⟨hne, g, cap, cur, e, hg, k1, k2, k3, k4, k5⟩
      · cases e; exact ⟨Nat.le_refl _, Nat.zero_le _⟩
      · cases e; exact ⟨k1, k2⟩
    have GR := Lib.hid (buf_grow b s.size l v _ h' h1 hlim hno)
    have HG := Lib.hid hgr
    clear hb hr0 hroom hb' h h' hno c0 hgr
    go_enter Try.func94, Try.ntmps94
    go_wp2_with (first | (go_at_call 95; refine (Try.Buffer_tryGrow_none b _ l0 cap0 s.size _ hc0 k12.1 k12.2 hlt).mono ?_; rintro e W0 ⟨rfl, hW0⟩; rw [hW0]; clear hlt k12 hc0 hW0) | (go_at_call 96; refine GR.out.mono ?_; rintro e W1 ⟨rfl, N, cap2, cells, hR⟩; have HR := Lib.hid (hR.drop HG.out); clear hR HG GR; have d0 : W1.cell? ⟨b, 0, none⟩ = some (.slice (some ⟨N, 0, none⟩) (l.length + s.size) cap2) := (by obtain ⟨lr2, hx⟩ := HR.out.head; rw [Lib.cell_of_heap hx]; rfl); have hcp := CPY W1 N cap2 (cap2 - l.length) cells HR.out rfl; have hne : ¬ cap2 = l.length := (by have := HR.out.room; omega); have k1 : l.length + s.size ≤ cap2 := HR.out.room; have k2 : cap2 ≤ 9223372036854775807 := HR.out.lim; clear CPY))
    go_ret2
    exact wo_mk HR.out (by simp) h1 rfl (by simp only [List.append_assoc, HR.out.taken])
end Go.Proofs.Ytonhphjejlidiaa
