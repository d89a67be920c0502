/-
  The printer's block, and the walks of the column counter's addByte and WriteByte. Conditions: those in each theorem.
-/
import Derived.Test.YtonhphjejlidiaaBs
import Derived.Lib.IndexBytes
namespace Go.Proofs.Ytonhphjejlidiaa
set_option linter.unusedVariables false
open Go.Shelf Go.RowKit Go.Lib

/-- the printer's fields that the laws speak of -/
structure PF where
  col : Nat
  ls : Bool
  ind : Nat
  mini : Bool
  single : Bool
  ws : Nat
  wn : Bool
  mn : Bool
  semi : Bool
  first : Bool
  line : Nat
  last : Nat
  level : Nat

def w0v (kp : Bool) (k p : Nat) : Value := if kp then .iface 134 (.pointer (some ⟨p, 2, none⟩)) else .iface 79 (.pointer (some ⟨k, 0, none⟩))
def c2v (kp : Bool) (k : Nat) : Value := if kp then .pointer (some ⟨k, 0, none⟩) else .pointer none
/-- the printer's twenty-six cells -/
def pcells (kp : Bool) (k p tw : Nat) (f : PF) : Array Value :=
  #[w0v kp k p, .pointer (some ⟨tw, 0, none⟩), c2v kp k, .int .i64 f.col, .bool f.ls, .int .u64 f.ind, .bool false, .bool false, .bool false, .bool kp, .bool f.mini, .bool f.single, .bool false, .int .u8 f.ws, .bool f.wn, .bool f.mn, .bool f.semi, .slice none 0 0, .bool f.first, .int .u64 f.line, .int .u64 f.last, .int .u64 f.level, .slice none 0 0, .bool false, .slice none 0 0, .pointer none]

def addF (f : PF) (c : UInt8) : PF := { f with col := (addB (f.col, f.ls) c).1, ls := (addB (f.col, f.ls) c).2 }
/-- the fields behind a byte, a text -/
def stepF (kp : Bool) (f : PF) (c : UInt8) : PF := if kp then addF f c else f
def stepL (kp : Bool) (f : PF) (l : List UInt8) : PF := if kp then { f with col := (addL (f.col, f.ls) l).1, ls := (addL (f.col, f.ls) l).2 } else f

theorem stepL_one (f : PF) (l : List UInt8) (c : UInt8) : addF (stepL true f l) c = stepL true f (l ++ [c]) := by
  unfold stepL addF
  simp only [if_true, addL_one]
theorem stepL_nil (kp : Bool) (f : PF) : stepL kp f [] = f := by cases kp <;> rfl
theorem stepL_snoc (kp : Bool) (f : PF) (l : List UInt8) (c : UInt8) : stepF kp (stepL kp f l) c = stepL kp f (l ++ [c]) := by
  cases kp
  · rfl
  · exact stepL_one f l c
theorem stepL_app (kp : Bool) (f : PF) (l m : List UInt8) : stepL kp (stepL kp f l) m = stepL kp f (l ++ m) := by
  cases kp
  · rfl
  · unfold stepL; simp only [if_true, addL_app]

def P1 (p : Nat) (i : Nat) : Prop := i = p
/-- what addByte leaves -/
def AddOut (kp : Bool) (k p tw : Nat) (f : PF) (w : World) (e : Ending) (w' : World) : Prop :=
  e = .returned (.tuple #[]) ∧ w'.heap[p]? = some (.cells (pcells kp k p tw f) 87 (0, 0)) ∧ ∀ v, FrS (P1 p) v v w w'

set_option maxRecDepth 20000 in
set_option maxHeartbeats 2000000 in
theorem add144 (k p tw : Nat) (f : PF) (c : UInt8) (w : World) (h : w.heap[p]? = some (.cells (pcells true k p tw f) 87 (0, 0))) (hc : f.col ≤ 1073741824) :
    Calls Try.prog 144 #[.pointer (some ⟨p, 2, none⟩), .int .u8 (c.toNat : Int)] w (AddOut true k p tw (addF f c) w) := by
  have c3 : w.cell? ⟨p, 3, none⟩ = some (.int .i64 f.col) := by rw [Lib.cell_of_heap h]; rfl
  have c4 : w.cell? ⟨p, 4, none⟩ = some (.bool f.ls) := by rw [Lib.cell_of_heap h]; rfl
  have f3 : w.frozen? ⟨p, 3, none⟩ = false := Lib.frozen_of_heap h 3
  have f4 : w.frozen? ⟨p, 4, none⟩ = false := Lib.frozen_of_heap h 4
  have hcl : (f.col : Int) ≤ 1073741824 := by omega
  have H := Lib.hid h
  have FR : Hid (∀ v, FrS (P1 p) v v w w) := Lib.hid fun v => FrS.refl _ v w
  obtain ⟨col, hcol⟩ : ∃ col, col = f.col := ⟨_, rfl⟩
  rw [← hcol] at c3 hcl
  have HC := Lib.hid hcol
  clear h hcol hc
  by_cases h10 : c = 10
  · subst h10
    go_enter Try.func144, Try.ntmps144
    go_wp2
    go_end0
    have h1 := Lib.heap_setCell_same (i := 3) (Lib.heap_setCell_same (i := 4) (Lib.heap_setCell_same (i := 3) H.out (.int .i64 0)) (.bool true)) (.int .i64 1)
    exact ⟨rfl, h1, fun v => (((FR.out v).setCell (a := ⟨p, 3, none⟩) rfl _).setCell (a := ⟨p, 4, none⟩) rfl _).setCell (a := ⟨p, 3, none⟩) rfl _⟩
  · have hi10 : ¬ (c.toNat : Int) = 10 := fun e => h10 (Lib.byte_eq_of_toNat e)
    by_cases hbl : blankB c = true
    · have hor : c = 9 ∨ c = 32 ∨ c = 255 := by simpa [blankB, or_assoc] using hbl
      have R : Hid (addF f c = { f with col := col + 1 }) := Lib.hid (by unfold addF addB; rw [if_neg h10, hbl, Bool.and_true, HC.out])
      rcases hor with rfl | rfl | rfl
      all_goals (
        clear h10 hi10 hbl
        go_enter Try.func144, Try.ntmps144
        go_wp2
        go_end0
        have h1 := Lib.heap_setCell_same (i := 3) H.out (.int .i64 (col + 1 : Nat))
        refine ⟨rfl, ?_, fun v => (FR.out v).setCell (a := ⟨p, 3, none⟩) rfl _⟩
        rw [R.out]
        exact h1)
    · have h9 : ¬ (c.toNat : Int) = 9 := fun e => hbl (by rw [Lib.byte_eq_of_toNat (a := c) (b := 9) e]; rfl)
      have h32 : ¬ (c.toNat : Int) = 32 := fun e => hbl (by rw [Lib.byte_eq_of_toNat (a := c) (b := 32) e]; rfl)
      have h255 : ¬ (c.toNat : Int) = 255 := fun e => hbl (by rw [Lib.byte_eq_of_toNat (a := c) (b := 255) e]; rfl)
      have R : Hid (addF f c = { f with col := col + 1, ls := false }) := Lib.hid (by unfold addF addB; rw [if_neg h10, (by simpa using hbl : blankB c = false), Bool.and_false, HC.out])
      clear h10 hbl
      go_enter Try.func144, Try.ntmps144
      go_wp2
      go_end0
      have h1 := Lib.heap_setCell_same (i := 3) (Lib.heap_setCell_same (i := 4) H.out (.bool false)) (.int .i64 (col + 1 : Nat))
      refine ⟨rfl, ?_, fun v => ((FR.out v).setCell (a := ⟨p, 4, none⟩) rfl _).setCell (a := ⟨p, 3, none⟩) rfl _⟩
      rw [R.out]
      exact h1

/-- the whole: the writer and the printer over it -/
structure PS (B b k r p tw : Nat) (kp : Bool) (out : List UInt8) (f : PF) (v : Value) (w : World) : Prop where
  bs : BS B b k r out v w
  pr : w.heap[p]? = some (.cells (pcells kp k p tw f) 87 (0, 0))
  npb : p ≠ b
  npk : p ≠ k
  npr : p ≠ r
  own : v.ownBlock ≠ some p
  lp : B ≤ p

def S4 (b k r p : Nat) (i : Nat) : Prop := S3 b k r i ∨ i = p

theorem PS.ns3 {B b k r p tw : Nat} {kp : Bool} {out : List UInt8} {f : PF} {v : Value} {w : World} (h : PS B b k r p tw kp out f v w) : ¬ S3 b k r p := by
  rintro (e | e | e)
  · exact h.npb e
  · exact h.npk e
  · exact h.npr e
theorem PS.lt {B b k r p tw : Nat} {kp : Bool} {out : List UInt8} {f : PF} {v : Value} {w : World} (h : PS B b k r p tw kp out f v w) : p < w.heap.size := Lib.lt_of_heap h.pr
theorem PS.ge {B b k r p tw : Nat} {kp : Bool} {out : List UInt8} {f : PF} {v : Value} {w : World} (h : PS B b k r p tw kp out f v w) : B ≤ w.heap.size := Nat.le_trans h.lp (Nat.le_of_lt h.lt)

/-- behind a write of the writer's -/
theorem PS.wrote {B b k r p tw : Nat} {kp : Bool} {out out2 : List UInt8} {f : PF} {v v' : Value} {w w' : World} (h : PS B b k r p tw kp out f v w) (hb : BS B b k r out2 v' w') (hf : FrS (S3 b k r) v v' w w') : PS B b k r p tw kp out2 f v' w' := by
  refine ⟨hb, (hf.block p h.lt h.ns3 h.own).trans h.pr, h.npb, h.npk, h.npr, ?_, h.lp⟩
  rcases hf.own with o | ⟨g, o, hg⟩
  · rw [o]; exact h.own
  · rw [o]; intro e; cases e; have := h.lt; omega
/-- behind a turn of the printer's own block -/
theorem PS.turned {B b k r p tw : Nat} {kp : Bool} {out : List UInt8} {f f2 : PF} {v : Value} {w w' : World} (h : PS B b k r p tw kp out f v w) (hp : w'.heap[p]? = some (.cells (pcells kp k p tw f2) 87 (0, 0))) (hf : ∀ v, FrS (P1 p) v v w w') : PS B b k r p tw kp out f2 v w' := by
  obtain ⟨fl, pend, rc, ho, hb⟩ := h.bs
  have hx : ∀ i, i < w.heap.size → i ≠ p → w'.heap[i]? = w.heap[i]? := fun i hi hn => (hf (.slice none 0 0)).block i hi hn (by simp [Value.ownBlock])
  have hS : ∀ i, S3 b k r i → w'.heap[i]? = w.heap[i]? := by
    rintro i (rfl | rfl | rfl)
    · exact hx _ hb.buf.lt (Ne.symm h.npb)
    · exact hx _ (Lib.lt_of_heap hb.wr) (Ne.symm h.npk)
    · exact hx _ (Lib.lt_of_heap hb.row) (Ne.symm h.npr)
  have hO : ∀ g, v.ownBlock = some g → w'.heap[g]? = w.heap[g]? := fun g hg => hx g (hb.buf.own_lt g hg).1 (fun e => h.own (e ▸ hg))
  exact ⟨⟨fl, pend, rc, ho, hb.kept hS hO⟩, hp, h.npb, h.npk, h.npr, h.own, h.lp⟩

/-- what a byte or a text to the printer leaves -/
def PEmit (B b k r p tw : Nat) (kp : Bool) (out : List UInt8) (f : PF) (v : Value) (w : World) (ret : Value) (e : Ending) (w' : World) : Prop :=
  e = .returned ret ∧ ∃ v', PS B b k r p tw kp out f v' w' ∧ FrS (S4 b k r p) v v' w w'

theorem PS.c {B b k r p tw : Nat} {kp : Bool} {out : List UInt8} {f : PF} {v : Value} {w : World} (h : PS B b k r p tw kp out f v w) (i : Nat) : w.cell? ⟨p, i, none⟩ = (pcells kp k p tw f)[i]? := Lib.cell_of_heap h.pr i
theorem PS.f {B b k r p tw : Nat} {kp : Bool} {out : List UInt8} {f : PF} {v : Value} {w : World} (h : PS B b k r p tw kp out f v w) (i : Nat) : w.frozen? ⟨p, i, none⟩ = false := Lib.frozen_of_heap h.pr i

/-- the byte goes straight to the bufio.Writer -/
theorem byte129 (B b k r p tw : Nat) (out : List UInt8) (f : PF) (v : Value) (c : UInt8) (w : World) (h : PS B b k r p tw false out f v w) (hl : out.length + 4096 ≤ 1073741824) :
    Calls Try.prog 129 #[.pointer (some ⟨k, 0, none⟩), .int .u8 (c.toNat : Int)] w (PEmit B b k r p tw false (out ++ [c]) (stepF false f c) v w .nilIface) :=
  (bw_byte B b k r out v c w h.bs h.ge hl).mono fun e w' ⟨he, v', h1, h2⟩ => ⟨he, v', h.wrote h1 h2, h2.mono fun i hi => .inl hi⟩
theorem str130 (B b k r p tw : Nat) (out : List UInt8) (f : PF) (v : Value) (s : ByteArray) (w : World) (h : PS B b k r p tw false out f v w) (hl : out.length + s.size + 4096 ≤ 1073741824) :
    Calls Try.prog 130 #[.pointer (some ⟨k, 0, none⟩), .string s] w (PEmit B b k r p tw false (out ++ s.data.toList) (stepL false f s.data.toList) v w (.tuple #[.int .i64 s.size, .nilIface])) :=
  (bw_str B b k r out v s w h.bs h.ge hl).mono fun e w' ⟨he, v', h1, h2⟩ => ⟨he, v', h.wrote h1 h2, h2.mono fun i hi => .inl hi⟩

set_option maxRecDepth 20000 in
set_option maxHeartbeats 2000000 in
/-- .. through the column counter -/
theorem byte142 (B b k r p tw : Nat) (out : List UInt8) (f : PF) (v : Value) (c : UInt8) (w : World) (h : PS B b k r p tw true out f v w) (hl : out.length + 4096 ≤ 1073741824) (hc : f.col ≤ 1073741824) :
    Calls Try.prog 142 #[.pointer (some ⟨p, 2, none⟩), .int .u8 (c.toNat : Int)] w (PEmit B b k r p tw true (out ++ [c]) (stepF true f c) v w .nilIface) := by
  have A := Lib.hid (add144 k p tw f c w h.pr hc)
  have H := Lib.hid h
  clear h
  go_enter Try.func142, Try.ntmps142
  go_wp2_with (first | (go_at_call 144; refine A.out.mono ?_; rintro e w1 ⟨rfl, h1, h2⟩; have H1 := Lib.hid (H.out.turned h1 h2); have H2 := Lib.hid h2; have c2 : w1.cell? ⟨p, 2, none⟩ = some (.pointer (some ⟨k, 0, none⟩)) := (by rw [H1.out.c]; rfl); have WB := Lib.hid (bw_byte B b k r out v c w1 H1.out.bs H1.out.ge hl); clear h1 h2 A) | (go_at_call 129; refine WB.out.mono ?_; rintro e w2 ⟨rfl, v', h3, h4⟩; have H3 := Lib.hid (H1.out.wrote h3 h4); have H4 := Lib.hid h4; clear h3 h4 WB))
  go_ret
  exact ⟨rfl, v', H3.out, ((H2.out v).mono (fun i hi => .inr hi)).trans (H4.out.mono fun i hi => .inl hi)⟩

end Go.Proofs.Ytonhphjejlidiaa
