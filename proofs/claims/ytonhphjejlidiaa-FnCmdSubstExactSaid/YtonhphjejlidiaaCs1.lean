/-
  The walks of strings.Builder's writers at the builder inside a Config. Conditions: those in each theorem.
-/
import Derived.Test.YtonhphjejlidiaaCs2
import Derived.Lib.Builder
import Derived.Laws.Externs
namespace Go.Proofs.Ytonhphjejlidiaa
set_option linter.unusedVariables false
open Go.Shelf Go.RowKit Go.Lib

/-- a Config's twenty-seven cells: the command's function, the builder's two cells -/
def cfgC (fn p v : Value) : Array Value := #[.nilIface, fn, .nilFunc, .nilFunc, .nilFunc, .bool false, .bool false, .bool false, .bool false, .bool false, .bool false, p, v, .string ⟨#[]⟩, .int .u64 0, .string ⟨#[]⟩, .int .u64 0, .string ⟨#[]⟩, .int .u64 0, .string ⟨#[]⟩, .int .u64 0, .slice none 0 0, .slice none 0 0, .slice none 0 0, .slice none 0 0, .string ⟨#[]⟩, .pointer none]
/-- the Config lies in block b; its builder holds l -/
structure CfgS (B b : Nat) (fn p v : Value) (l : List UInt8) (w : World) : Prop where
  heap : w.heap[b]? = some (.cells (cfgC fn p v) 115 (0, 0))
  low : B ≤ b
  own : w.ownsRow B 5 1 v l.length (byteCells l)
  ne : v.ownBlock ≠ some b
theorem CfgS.c {B b : Nat} {fn p v : Value} {l : List UInt8} {w : World} (h : CfgS B b fn p v l w) (i : Nat) : w.cell? ⟨b, i, none⟩ = (cfgC fn p v)[i]? := Lib.cell_of_heap h.heap i
theorem CfgS.f {B b : Nat} {fn p v : Value} {l : List UInt8} {w : World} (h : CfgS B b fn p v l w) (i : Nat) : w.frozen? ⟨b, i, none⟩ = false := Lib.frozen_of_heap h.heap i
theorem CfgS.lt {B b : Nat} {fn p v : Value} {l : List UInt8} {w : World} (h : CfgS B b fn p v l w) : b < w.heap.size := Lib.lt_of_heap h.heap

theorem size106 : ∃ j, Try.prog.info? 106 = some j ∧ j.size = 2 := by
  have h : (Try.prog.info? 106).map (·.size) = some 2 := by kernel_rfl
  exact Option.map_eq_some_iff.1 h
theorem lies106 : liesAt Try.prog Try.prog.depth 115 (27 / Try.prog.cellsOf 115) 11 106 1 = true := by kernel_rfl

set_option maxRecDepth 100000 in
set_option maxHeartbeats 2000000 in
theorem check136 (B b : Nat) (fn v : Value) (l : List UInt8) (w : World) (h : CfgS B b fn (.pointer none) v l w) :
    Calls Try.prog 136 #[.pointer (some ⟨b, 11, none⟩)] w fun e w' => e = .returned (.tuple #[]) ∧ w' = w.setCell ⟨b, 11, none⟩ (.pointer (some ⟨b, 11, none⟩)) := by
  obtain ⟨j, hj, hjs⟩ := size106
  have h0 : w.cell? ⟨b, 11, none⟩ = some (.pointer none) := by rw [h.c]; rfl
  have hfz := h.f 11
  have hsh : w.shape? b = some (115, 27) := by
    have := h.heap
    simp only [World.shape?, this]
    rfl
  clear h
  go_enter Try.func136, Try.ntmps136
  go_wp2
  rw [Lib.run_to_unsafe w ⟨b, 11, none⟩ Try.underlying104 Try.underlying197 hj (by rw [hjs]; decide) hsh (show (11 : Nat) < 27 by decide)]
  simp only [Result.andThen]
  rw [Oper.upon_value]
  go_wp2
  rw [run_callFunc_extern Try.func137 (by kernel_rfl) (by kernel_rfl) (by kernel_rfl) (e := Extern.AbiNoEscape.same) (by kernel_rfl)]
  rw [Lib.run_noEscape]
  simp only [Result.andThen]
  rw [Oper.upon_value]
  go_wp2
  rw [Lib.run_from_unsafe w ⟨b, 11, none⟩ Try.underlying197 Try.underlying104 hj hsh lies106]
  simp only [Result.andThen]
  rw [Oper.upon_value]
  go_wp2
  go_end0
  exact ⟨rfl, rfl⟩

theorem CfgS.setp {B b : Nat} {fn p v : Value} {l : List UInt8} {w : World} (h : CfgS B b fn p v l w) (hne : ∀ g, v.ownBlock = some g → g < w.heap.size) (q : Value) : CfgS B b fn q v l (w.setCell ⟨b, 11, none⟩ q) := by
  refine ⟨Lib.heap_setCell_same (i := 11) h.heap q, h.low, ?_, h.ne⟩
  rcases h.own with ⟨hl, hr⟩
  refine ⟨hl, ?_⟩
  rcases hr with hr | ⟨g, cap, cur, hv, hg, hh, r⟩
  · exact .inl hr
  · refine .inr ⟨g, cap, cur, hv, hg, ?_, r⟩
    rw [Below.heap_setCell w ⟨b, 11, none⟩ q g (by rintro rfl; exact h.ne (by rw [hv]; rfl))]
    exact hh

/-- what WriteString leaves -/
def Wrote (B b : Nat) (fn : Value) (l : List UInt8) (w : World) (e : Ending) (w' : World) : Prop :=
  e = .returned (.tuple #[.int .i64 l.length, .nilIface]) ∧ ∃ v', CfgS B b fn (.pointer (some ⟨b, 11, none⟩)) v' l w' ∧ (l = [] → v' = .slice none 0 0) ∧ Below B w w'

set_option maxRecDepth 20000 in
set_option maxHeartbeats 4000000 in
theorem write135 (B b : Nat) (fn : Value) (s : ByteArray) (w : World) (h : CfgS B b fn (.pointer none) (.slice none 0 0) [] w) (hs : s.size ≤ 1073741824) (hBw : B ≤ w.heap.size) :
    Calls Try.prog 135 #[.pointer (some ⟨b, 11, none⟩), .string s] w (Wrote B b fn s.data.toList w) := by
  obtain ⟨i0, hi, hz0, hz1, hz2⟩ := inf5
  have C1 := Lib.hid (check136 B b fn _ _ w h)
  have H1 := Lib.hid (h.setp (fun g hg => by cases hg) (.pointer (some ⟨b, 11, none⟩)))
  have HB := Lib.hid ((Below.refl B w).setCell (p := ⟨b, 11, none⟩) h.low (.pointer (some ⟨b, 11, none⟩)))
  have hsi : (s.size : Int) ≤ 1073741824 := by omega
  have LOW := Lib.hid h.low
  clear h
  go_enter Try.func135, Try.ntmps135
  go_wp2_with (first | (go_at_call 136; refine C1.out.mono ?_; rintro e w1 ⟨rfl, hw1⟩; rw [← hw1] at H1 HB; clear hw1 C1; have c12 : w1.cell? ⟨b, 12, none⟩ = some (.slice none 0 0) := (by rw [H1.out.c]; rfl)) | (at_builtin; refine Lib.wpList_append_own_string _ rfl (.tmp 12) (.tmp 13) 54 9 rfl B 5 i0 Try.underlying54 Try.underlying9 hi hz0 hz1 hz2 _ _ _ rfl H1.out.own s rfl (by unfold maxLen; simp; omega) (by simp; omega) (Nat.le_trans hBw HB.out.size) ?_))
  intro v' w2 hown' hgrow hnil
  have hb2 : w2.heap[b]? = some (.cells (cfgC fn (.pointer (some ⟨b, 11, none⟩)) (.slice none 0 0)) 115 (0, 0)) := by
    rw [hgrow.block b H1.out.lt (by rintro ⟨⟩)]
    exact H1.out.heap
  have f12 : w2.frozen? ⟨b, 12, none⟩ = false := Lib.frozen_of_heap hb2 12
  have d12 : w2.cell? ⟨b, 12, none⟩ = some (.slice none 0 0) := by rw [Lib.cell_of_heap hb2]; rfl
  have O2 : Hid (w2.ownsRow B 5 1 v' s.data.toList.length (byteCells s.data.toList)) := Lib.hid (by
    have e : s.data.toList.length = s.size := by simp
    rw [e, ← strCells_eq]; simpa [byteCells] using hown')
  have N2 : Hid (s.data.toList = [] → v' = .slice none 0 0) := Lib.hid fun h => hnil.2 (by apply ByteArray.ext; apply Array.toList_inj.1; rw [h]; rfl)
  have HB2 := Lib.hid (HB.out.grown hgrow (Nat.le_trans hBw HB.out.size) (fun k hk => by cases hk))
  have HH := Lib.hid hb2
  have NE : Hid (v'.ownBlock ≠ some b) := Lib.hid (Lib.ownBlock_ne hown' hb2 (by decide))
  obtain ⟨ao, n', cap, rfl⟩ : ∃ ao n' cap, v' = .slice ao n' cap := by
    rcases hown'.2 with ⟨hv, _⟩ | ⟨g, cap, cur, hv, _⟩
    · exact ⟨_, _, _, hv⟩
    · exact ⟨_, _, _, hv⟩
  clear hown' hgrow hnil hb2 H1 HB c12
  go_wp2
  go_ret2
  refine ⟨by simp, _, ⟨Lib.heap_setCell_same (i := 12) HH.out _, LOW.out, ?_, NE.out⟩, N2.out, HB2.out.setCell (p := ⟨b, 12, none⟩) LOW.out _⟩
  rcases O2.out with ⟨hl, hr⟩
  refine ⟨hl, ?_⟩
  rcases hr with hr | ⟨g, cap2, cur, hv, hg, hh, r⟩
  · exact .inl hr
  · refine .inr ⟨g, cap2, cur, hv, hg, ?_, r⟩
    rw [Below.heap_setCell w2 ⟨b, 12, none⟩ _ g (by rintro rfl; exact NE.out (by rw [hv]; rfl))]
    exact hh

theorem cells5 : Try.prog.cellsOf 5 = 1 := by kernel_rfl

set_option maxRecDepth 20000 in
set_option maxHeartbeats 4000000 in
theorem string67 (B b : Nat) (fn p v : Value) (l : List UInt8) (w : World) (h : CfgS B b fn p v l w) (hnil : l = [] → v = .slice none 0 0) :
    Calls Try.prog 67 #[.pointer (some ⟨b, 11, none⟩)] w fun e w' => e = .returned (.string ⟨l.toArray⟩) ∧ Below B w w' := by
  have mixed : Try.prog.follows .mixedOrders = true := by kernel_rfl
  by_cases h0 : l = []
  · have hv := hnil h0
    subst hv h0
    have hUS : ∀ W, (Builtin.unsafeString_ #[147, 3] 9 #[.pointer none, .int .i64 0]).run Try.prog W = .ok (.string .empty) W := fun W => Lib.run_unsafeString_none W _ _ _ none
    have c1 : w.drew.cell? ⟨b, 12, none⟩ = some (.slice none 0 0) := by
      have := h.c 12
      exact this
    have hSD : (Builtin.unsafeSliceData_ #[54] 147 #[.slice none 0 0]).run Try.prog w.drew = .ok (.pointer none) w.drew := rfl
    clear h hnil
    go_enter Try.func67, Try.ntmps67
    go_wp2
    go_region
    all_goals (go_wp2; go_ret; exact ⟨rfl, Below.drew (Below.refl B w)⟩)
  · have hl0 : l.length ≠ 0 := by simpa using h0
    obtain ⟨g, cap, cur, rfl, hbg, hg, hnc, hcm, hcs, htake⟩ : ∃ g cap cur, v = .slice (some ⟨g, 0, none⟩) l.length cap ∧ B ≤ g ∧ w.heap[g]? = some (.cells cur 5 (0, 0)) ∧ l.length ≤ cap ∧ cap ≤ maxLen ∧ cur.size = cap * 1 ∧ cur.toList.take (l.length * 1) = Lib.byteCells l := by
      rcases h.own.2 with ⟨_, hz⟩ | ⟨g, cap, cur, hv, r⟩
      · exact absurd hz hl0
      · exact ⟨g, cap, cur, hv, r⟩
    have c1 : w.drew.cell? ⟨b, 12, none⟩ = some (.slice (some ⟨g, 0, none⟩) l.length cap) := h.c 12
    have hSD : (Builtin.unsafeSliceData_ #[54] 147 #[.slice (some ⟨g, 0, none⟩) l.length cap]).run Try.prog w.drew = .ok (.pointer (some ⟨g, 0, none⟩)) w.drew :=
      Lib.run_unsafeSliceData_row _ _ _ _ _ _ (by omega)
    have hUS : (Builtin.unsafeString_ #[147, 3] 9 #[.pointer (some ⟨g, 0, none⟩), .int .i64 l.length]).run Try.prog w.drew = .ok (.string ⟨l.toArray⟩) (w.drew.freeze ⟨g, 0, none⟩ l.length) := by
      refine Lib.run_unsafeString_row w.drew 147 3 9 5 Try.underlying147 cells5 g cur.size (by have hg' : w.drew.heap[g]? = some (.cells cur 5 (0, 0)) := hg; simp [World.shape?, hg']) l h0 (by omega) (by unfold maxLen at hcm; omega) ?_
      intro j x hx
      exact h.own.cells (g := g) rfl j (.int .u8 x.toNat) (by simp [Lib.byteCells, hx])
    clear h hnil hg htake hcs hl0
    go_enter Try.func67, Try.ntmps67
    go_wp2
    go_region
    all_goals (go_wp2; go_ret; exact ⟨rfl, Lib.below_freeze (Below.drew (Below.refl B w)) (p := ⟨g, 0, none⟩) hbg _⟩)

set_option maxRecDepth 20000 in
set_option maxHeartbeats 2000000 in
theorem reset74 (B b : Nat) (fn : Value) (w : World) (h : CfgS B b fn (.pointer none) (.slice none 0 0) [] w) :
    Calls Try.prog 74 #[.pointer (some ⟨b, 11, none⟩)] w fun e w' => e = .returned (.tuple #[]) ∧ CfgS B b fn (.pointer none) (.slice none 0 0) [] w' ∧ Below B w w' := by
  have c1 : w.cell? ⟨b, 11, none⟩ = some (.pointer none) := h.c 11
  have c2 : w.cell? ⟨b, 12, none⟩ = some (.slice none 0 0) := h.c 12
  have f1 := h.f 11
  have f2 := h.f 12
  have H := Lib.hid h
  clear h
  go_enter Try.func74, Try.ntmps74
  go_wp2
  go_end0
  have h2 := Lib.heap_setCell_same (i := 12) (Lib.heap_setCell_same (i := 11) H.out.heap (.pointer none)) (.slice none 0 0)
  exact ⟨rfl, ⟨h2, H.out.low, World.ownsRow_nil _ _ _ _, (by rintro ⟨⟩)⟩, ((Below.refl B w).setCell (p := ⟨b, 11, none⟩) H.out.low _).setCell (p := ⟨b, 12, none⟩) H.out.low _⟩

set_option maxRecDepth 20000 in
theorem strb66 (B b : Nat) (fn : Value) (w : World) (h : CfgS B b fn (.pointer none) (.slice none 0 0) [] w) :
    Calls Try.prog 66 #[.pointer (some ⟨b, 0, none⟩)] w fun e w' => e = .returned (.pointer (some ⟨b, 11, none⟩)) ∧ CfgS B b fn (.pointer none) (.slice none 0 0) [] w' ∧ Below B w w' := by
  have R := Lib.hid (reset74 B b fn w h)
  clear h
  go_enter Try.func66, Try.ntmps66
  go_wp2_with (go_at_call 74; refine R.out.mono ?_; rintro e w1 ⟨rfl, h1, h2⟩; have H1 := Lib.hid (And.intro h1 h2); clear h1 h2)
  go_ret
  exact ⟨rfl, H1.out⟩
end Go.Proofs.Ytonhphjejlidiaa
