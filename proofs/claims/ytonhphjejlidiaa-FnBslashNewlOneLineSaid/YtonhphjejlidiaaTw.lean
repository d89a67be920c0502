/-
  Two printers side by side. Conditions: those in each theorem.
-/
import Derived.Test.YtonhphjejlidiaaLa
namespace Go.Proofs.Ytonhphjejlidiaa
set_option linter.unusedVariables false
open Go.Shelf Go.RowKit Go.Lib

theorem PS.kept {B b k r p tw : Nat} {kp : Bool} {out : List UInt8} {f : PF} {v : Value} {w w' : World} (h : PS B b k r p tw kp out f v w) (hS : ∀ i, S4 b k r p i → i < w.heap.size → w'.heap[i]? = w.heap[i]?) (hO : ∀ g, v.ownBlock = some g → g < w.heap.size → w'.heap[g]? = w.heap[g]?) : PS B b k r p tw kp out f v w' := by
  obtain ⟨fl, pend, rc, ho, hb⟩ := h.bs
  refine ⟨⟨fl, pend, rc, ho, hb.kept ?_ fun g hg => hO g hg (hb.buf.own_lt g hg).1⟩, (hS p (.inr rfl) h.lt).trans h.pr, h.npb, h.npk, h.npr, h.own, h.lp⟩
  rintro i (rfl | rfl | rfl)
  · exact hS _ (.inl (.inl rfl)) hb.buf.lt
  · exact hS _ (.inl (.inr (.inl rfl))) (Lib.lt_of_heap hb.wr)
  · exact hS _ (.inl (.inr (.inr rfl))) (Lib.lt_of_heap hb.row)

/-- the footprint's lower bound -/
theorem PS.low {B b k r p tw : Nat} {kp : Bool} {out : List UInt8} {f : PF} {v : Value} {w : World} (h : PS B b k r p tw kp out f v w) : B ≤ b ∧ B ≤ k ∧ B ≤ r ∧ B ≤ p ∧ ∀ g, v.ownBlock = some g → B ≤ g := by
  obtain ⟨fl, pend, rc, ho, hb⟩ := h.bs
  exact ⟨hb.lb, hb.lk, hb.lr, h.lp, hb.lo⟩
/-- .. and its upper one -/
theorem PS.high {B b k r p tw : Nat} {kp : Bool} {out : List UInt8} {f : PF} {v : Value} {w : World} (h : PS B b k r p tw kp out f v w) : b < w.heap.size ∧ k < w.heap.size ∧ r < w.heap.size ∧ p < w.heap.size ∧ ∀ g, v.ownBlock = some g → g < w.heap.size := by
  obtain ⟨fl, pend, rc, ho, hb⟩ := h.bs
  exact ⟨hb.buf.lt, Lib.lt_of_heap hb.wr, Lib.lt_of_heap hb.row, h.lt, fun g hg => (hb.buf.own_lt g hg).1⟩

/-- a first printer below B, a second from B on -/
structure Two (w : World) (B k r p tw : Nat) (kp : Bool) (out : List UInt8) (f : PF) (v : Value) (k2 r2 p2 tw2 : Nat) (kp2 : Bool) (out2 : List UInt8) (f2 : PF) (v2 : Value) (W : World) : Prop where
  one : PS w.heap.size w.heap.size k r p tw kp out f v W
  two : PS B B k2 r2 p2 tw2 kp2 out2 f2 v2 W
  below : Below w.heap.size w W
  ge : w.heap.size ≤ B
  lt : w.heap.size < B ∧ k < B ∧ r < B ∧ p < B ∧ ∀ g, v.ownBlock = some g → g < B

theorem Two.mk' {w : World} {k r p tw : Nat} {kp : Bool} {out : List UInt8} {f : PF} {v : Value} {k2 r2 p2 tw2 : Nat} {kp2 : Bool} {f2 : PF} {v2 : Value} {W W2 : World} (h : One w k r p tw kp out f v W) (h1 : PS W.heap.size W.heap.size k2 r2 p2 tw2 kp2 [] f2 v2 W2) (h2 : Below W.heap.size W W2) : Two w W.heap.size k r p tw kp out f v k2 r2 p2 tw2 kp2 [] f2 v2 W2 :=
  ⟨h.ps.grew (fun i hi => h2.block i hi), h1, h.below.trans (h2.mono h.below.size), h.below.size, h.ps.high⟩

/-- a step of the second -/
theorem Two.step {w : World} {B k r p tw : Nat} {kp : Bool} {out : List UInt8} {f : PF} {v : Value} {k2 r2 p2 tw2 : Nat} {kp2 : Bool} {out2 out3 : List UInt8} {f2 f3 : PF} {v2 v3 : Value} {W W2 : World} (h : Two w B k r p tw kp out f v k2 r2 p2 tw2 kp2 out2 f2 v2 W) (h1 : PS B B k2 r2 p2 tw2 kp2 out3 f3 v3 W2) (h2 : FrS (S4 B k2 r2 p2) v2 v3 W W2) : Two w B k r p tw kp out f v k2 r2 p2 tw2 kp2 out3 f3 v3 W2 := by
  obtain ⟨l1, l2, l3, l4, l5⟩ := h.two.low
  obtain ⟨m1, m2, m3, m4, m5⟩ := h.lt
  have hx : ∀ i, i < W.heap.size → i < B → W2.heap[i]? = W.heap[i]? := fun i hi hB => h2.block i hi (by rintro ((e | e | e) | e) <;> omega) (fun e => by have := l5 i e; omega)
  refine ⟨h.one.kept (fun i hi hl => hx i hl ?_) (fun g hg hl => hx g hl (m5 g hg)), h1, FrS.below h.below h2 h.ge (Nat.le_trans h.ge l2) (Nat.le_trans h.ge l3) (Nat.le_trans h.ge l4) (fun g hg => Nat.le_trans h.ge (l5 g hg)) (Nat.le_refl _), h.ge, h.lt⟩
  rcases hi with (e | e | e) | e <;> (rw [e]; assumption)
/-- a step of the first, behind which it is no longer asked for -/
theorem Two.first {w : World} {B k r p tw : Nat} {kp : Bool} {out out3 : List UInt8} {f f3 : PF} {v v3 : Value} {k2 r2 p2 tw2 : Nat} {kp2 : Bool} {out2 : List UInt8} {f2 : PF} {v2 : Value} {W W2 : World} (h : Two w B k r p tw kp out f v k2 r2 p2 tw2 kp2 out2 f2 v2 W) (h2 : FrS (S4 w.heap.size k r p) v v3 W W2) : PS B B k2 r2 p2 tw2 kp2 out2 f2 v2 W2 ∧ Below w.heap.size w W2 := by
  obtain ⟨l1, l2, l3, l4, l5⟩ := h.two.low
  obtain ⟨m1, m2, m3, m4, m5⟩ := h.lt
  obtain ⟨n1, n2, n3, n4, n5⟩ := h.one.low
  have hx : ∀ i, i < W.heap.size → B ≤ i → W2.heap[i]? = W.heap[i]? := fun i hi hB => h2.block i hi (by rintro ((e | e | e) | e) <;> omega) (fun e => by have := m5 i e; omega)
  refine ⟨h.two.kept (fun i hi hl => hx i hl ?_) (fun g hg hl => hx g hl (l5 g hg)), FrS.below h.below h2 n1 n2 n3 n4 n5 (Nat.le_refl _)⟩
  rcases hi with (e | e | e) | e <;> (rw [e]; assumption)
theorem Two.last {w : World} {B k2 r2 p2 tw2 : Nat} {kp2 : Bool} {out2 out3 : List UInt8} {f2 f3 : PF} {v2 v3 : Value} {W W2 : World} (h : PS B B k2 r2 p2 tw2 kp2 out2 f2 v2 W) (hb : Below w.heap.size w W) (hg : w.heap.size ≤ B) (h2 : FrS (S4 B k2 r2 p2) v2 v3 W W2) : Below w.heap.size w W2 := by
  obtain ⟨l1, l2, l3, l4, l5⟩ := h.low
  exact FrS.below hb h2 hg (Nat.le_trans hg l2) (Nat.le_trans hg l3) (Nat.le_trans hg l4) (fun g hg2 => Nat.le_trans hg (l5 g hg2)) (Nat.le_refl _)
end Go.Proofs.Ytonhphjejlidiaa
