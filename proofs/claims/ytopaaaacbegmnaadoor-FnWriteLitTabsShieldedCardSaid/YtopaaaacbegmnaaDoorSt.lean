/-
  The state of a bufio.Writer over a bytes.Buffer, and its frame. Conditions: those in each theorem.
-/
import Derived.Test.YtopaaaacbegmnaaDoorSa
namespace Go.Proofs.YtopaaaacbegmnaaDoor
set_option linter.unusedVariables false
open Go.Shelf Go.RowKit Go.Lib

/-- the frame: only the blocks of S and v's own row turn -/
structure FrS (S : Nat → Prop) (v v' : Value) (w w' : World) : Prop where
  os : w'.os = w.os
  tape : w'.tape = w.tape
  output : w'.output = w.output
  size : w.heap.size ≤ w'.heap.size
  block : ∀ i, i < w.heap.size → ¬ S i → v.ownBlock ≠ some i → w'.heap[i]? = w.heap[i]?
  own : v'.ownBlock = v.ownBlock ∨ ∃ g, v'.ownBlock = some g ∧ w.heap.size ≤ g

theorem FrS.refl (S : Nat → Prop) (v : Value) (w : World) : FrS S v v w w := ⟨rfl, rfl, rfl, Nat.le_refl _, fun _ _ _ _ => rfl, .inl rfl⟩
theorem FrS.trans {S : Nat → Prop} {v v1 v2 : Value} {w w1 w2 : World} (h : FrS S v v1 w w1) (k : FrS S v1 v2 w1 w2) : FrS S v v2 w w2 := by
  refine ⟨k.os.trans h.os, k.tape.trans h.tape, k.output.trans h.output, Nat.le_trans h.size k.size, fun i hi hs hv => ?_, ?_⟩
  · refine (k.block i (Nat.lt_of_lt_of_le hi h.size) hs fun e => ?_).trans (h.block i hi hs hv)
    rcases h.own with o | ⟨g, o, hg⟩
    · exact hv (o ▸ e)
    · rw [o] at e; cases e; omega
  · rcases k.own with o | ⟨g, o, hg⟩
    · rcases h.own with o2 | ⟨g, o2, hg⟩
      · exact .inl (o.trans o2)
      · exact .inr ⟨g, o.trans o2, hg⟩
    · exact .inr ⟨g, o, Nat.le_trans h.size hg⟩
theorem FrS.mono {S S' : Nat → Prop} {v v' : Value} {w w' : World} (h : FrS S v v' w w') (hs : ∀ i, S i → S' i) : FrS S' v v' w w' :=
  ⟨h.os, h.tape, h.output, h.size, fun i hi hn hv => h.block i hi (fun e => hn (hs i e)) hv, h.own⟩
theorem Fr.frS {b : Nat} {v v' : Value} {w w' : World} (h : Fr b v v' w w') {S : Nat → Prop} (hb : S b) : FrS S v v' w w' :=
  ⟨h.os, h.tape, h.output, h.size, fun i hi hs hv => h.block i hi (fun e => hs (e ▸ hb)) hv, h.own⟩
theorem FrS.drew {S : Nat → Prop} {v v' : Value} {w w' : World} (h : FrS S v v' w w') : FrS S v v' w w'.drew := ⟨h.os, h.tape, h.output, h.size, h.block, h.own⟩
theorem FrS.setCell {S : Nat → Prop} {v v' : Value} {w w' : World} (h : FrS S v v' w w') {a : Addr} (ha : S a.block) (x : Value) : FrS S v v' w (w'.setCell a x) :=
  ⟨h.os, h.tape, h.output, by simpa [World.setCell] using h.size, fun i hi hs hv => (Below.heap_setCell _ _ _ _ (fun e => hs (by rw [e]; exact ha))).trans (h.block i hi hs hv), h.own⟩
theorem FrS.alloc {S : Nat → Prop} {v v' : Value} {w w' : World} (h : FrS S v v' w w') (o : Obj) : FrS S v v' w (w'.alloc o) :=
  ⟨h.os, h.tape, h.output, Nat.le_trans h.size (by simp), fun i hi hs hv => (Below.heap_alloc _ _ i (Nat.lt_of_lt_of_le hi h.size)).trans (h.block i hi hs hv), h.own⟩
theorem FrS.setRow {S : Nat → Prop} {v v' : Value} {w w' : World} (h : FrS S v v' w w') {r : Nat} (hr : S r) (cs : Array Value) : FrS S v v' w (w'.setRow r cs) :=
  ⟨h.os, h.tape, h.output, by rw [setRow_size]; exact h.size, fun i hi hs hv => (setRow_other _ _ _ _ (fun e => hs (by rw [e]; exact hr))).trans (h.block i hi hs hv), h.own⟩

/-- the bufio.Writer's four cells -/
def bcells (b r n : Nat) : Array Value := #[.nilIface, .slice (some ⟨r, 0, none⟩) 4096 4096, .int .i64 n, .iface 29 (.pointer (some ⟨b, 0, none⟩))]

/-- a bufio.Writer at block k, its row r, over the Buffer at block b: fl has been flushed, pend waits in the row -/
structure BW (B b k r : Nat) (fl pend : List UInt8) (v : Value) (rc : Array Value) (w : World) : Prop where
  buf : BufS b fl v w
  wr : w.heap[k]? = some (.cells (bcells b r pend.length) 68 (0, 0))
  row : w.heap[r]? = some (.cells rc 5 (0, 0))
  rsize : rc.size = 4096
  held : rc.toList.take pend.length = Lib.byteCells pend
  fits : pend.length ≤ 4096
  nbk : b ≠ k
  nbr : b ≠ r
  nkr : k ≠ r
  ok : v.ownBlock ≠ some k
  or : v.ownBlock ≠ some r
  lb : B ≤ b
  lk : B ≤ k
  lr : B ≤ r
  lo : ∀ g, v.ownBlock = some g → B ≤ g

/-- the three blocks that a bufio.Writer turns -/
def S3 (b k r : Nat) (i : Nat) : Prop := i = b ∨ i = k ∨ i = r

/-- the whole stays where its blocks stay -/
theorem BW.kept {B b k r : Nat} {fl pend : List UInt8} {v : Value} {rc : Array Value} {w w' : World} (h : BW B b k r fl pend v rc w)
    (hS : ∀ i, S3 b k r i → w'.heap[i]? = w.heap[i]?) (hv : ∀ g, v.ownBlock = some g → w'.heap[g]? = w.heap[g]?) : BW B b k r fl pend v rc w' :=
  ⟨h.buf.kept (hS b (.inl rfl)) hv, (hS k (.inr (.inl rfl))).trans h.wr, (hS r (.inr (.inr rfl))).trans h.row, h.rsize, h.held, h.fits, h.nbk, h.nbr, h.nkr, h.ok, h.or, h.lb, h.lk, h.lr, h.lo⟩

/-- behind a write to the Buffer -/
theorem BW.over {B b k r : Nat} {fl fl2 pend : List UInt8} {v v' : Value} {rc : Array Value} {w w' : World} (h : BW B b k r fl pend v rc w) (hB : B ≤ w.heap.size) (hb : BufS b fl2 v' w') (hf : Fr b v v' w w') : BW B b k r fl2 pend v' rc w' := by
  have hk := Lib.lt_of_heap h.wr
  have hr := Lib.lt_of_heap h.row
  refine ⟨hb, (hf.block k hk (Ne.symm h.nbk) h.ok).trans h.wr, (hf.block r hr (Ne.symm h.nbr) h.or).trans h.row, h.rsize, h.held, h.fits, h.nbk, h.nbr, h.nkr, ?_, ?_, h.lb, h.lk, h.lr, ?_⟩
  · rcases hf.own with o | ⟨g, o, hg⟩
    · rw [o]; exact h.ok
    · rw [o]; intro e; cases e; omega
  · rcases hf.own with o | ⟨g, o, hg⟩
    · rw [o]; exact h.or
    · rw [o]; intro e; cases e; omega
  · intro g hg
    rcases hf.own with o | ⟨g', o, hg'⟩
    · exact h.lo g (o ▸ hg)
    · rw [o] at hg; cases hg; omega

/-- the count n is set anew: a prefix of what waited (none behind a flush) -/
theorem BW.count {B b k r : Nat} {fl pend p2 : List UInt8} {v : Value} {rc : Array Value} {w : World} (h : BW B b k r fl pend v rc w) (h2 : rc.toList.take p2.length = Lib.byteCells p2) (h3 : p2.length ≤ 4096) :
    BW B b k r fl p2 v rc (w.setCell ⟨k, 2, none⟩ (.int .i64 p2.length)) := by
  have hb := h.buf
  have hs : ∀ i, i ≠ k → (w.setCell ⟨k, 2, none⟩ (.int .i64 p2.length)).heap[i]? = w.heap[i]? := fun i hi => Below.heap_setCell _ _ _ _ hi
  refine ⟨hb.kept (hs b h.nbk) (fun g hg => hs g fun e => h.ok (e ▸ hg)), ?_, (hs r (Ne.symm h.nkr)).trans h.row, h.rsize, h2, h3, h.nbk, h.nbr, h.nkr, h.ok, h.or, h.lb, h.lk, h.lr, h.lo⟩
  exact Lib.heap_setCell_same (i := 2) h.wr _

/-- one byte is put behind what waits -/
theorem BW.put {B b k r : Nat} {fl pend : List UInt8} {v : Value} {rc : Array Value} {w : World} (h : BW B b k r fl pend v rc w) (c : UInt8) (hn : pend.length < 4096) :
    BW B b k r fl (pend ++ [c]) v (rc.setIfInBounds pend.length (.int .u8 (c.toNat : Int))) ((w.setCell ⟨r, pend.length, none⟩ (.int .u8 (c.toNat : Int))).setCell ⟨k, 2, none⟩ (.int .i64 (pend.length + 1 : Nat))) := by
  have hs : ∀ i, i ≠ r → (w.setCell ⟨r, pend.length, none⟩ (.int .u8 (c.toNat : Int))).heap[i]? = w.heap[i]? := fun i hi => Below.heap_setCell _ _ _ _ hi
  have h1 : BW B b k r fl pend v (rc.setIfInBounds pend.length (.int .u8 (c.toNat : Int))) (w.setCell ⟨r, pend.length, none⟩ (.int .u8 (c.toNat : Int))) :=
    ⟨h.buf.kept (hs b h.nbr) (fun g hg => hs g fun e => h.or (e ▸ hg)), (hs k h.nkr).trans h.wr, Lib.heap_setCell_same (i := pend.length) h.row _, by simp [h.rsize], by rw [Array.toList_setIfInBounds, List.take_set_of_le (Nat.le_refl _)]; exact h.held, h.fits, h.nbk, h.nbr, h.nkr, h.ok, h.or, h.lb, h.lk, h.lr, h.lo⟩
  have e : (pend ++ [c]).length = pend.length + 1 := by simp
  have h2 := h1.count (p2 := pend ++ [c]) (by
    have hl0 : rc.toList.length = 4096 := Array.length_toList.trans h.rsize
    have hl : pend.length < rc.toList.length := by omega
    rw [e, Array.toList_setIfInBounds, List.take_add_one, List.take_set_of_le (Nat.le_refl _), List.getElem?_set_self hl, h.held]
    simp [Lib.byteCells]) (by omega)
  rw [e] at h2
  exact h2
end Go.Proofs.YtopaaaacbegmnaaDoor
