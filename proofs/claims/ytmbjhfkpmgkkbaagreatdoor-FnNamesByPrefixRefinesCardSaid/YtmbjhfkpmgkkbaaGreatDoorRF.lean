/-
  A range over a bound method of an interface value, every round going on: one law for the statement, at the widest fence. Conditions: those in the theorem.
-/
import Derived.RangeFuncNested
import Derived.RangeFuncBound
import Derived.RangeFuncCalls
import Derived.RangeFuncLeaves
import Derived.RangeFuncBox
import Derived.Shelf.Abstract
import Derived.WalkKit
import Derived.OwnWalkIn
import Derived.TacticsInMore
import Derived.LoopNIn
import Derived.LoopIn
namespace Go.Proofs.YtmbjhfkpmgkkbaaGreatDoor
open Go.RowKit

/-- a round goes on: what is no cells stays, what lay below n₀ stays, I holds of one element more -/
def goesOn {α : Type} (n₀ : Nat) (I : List α → World → Prop) (xs : List α) (W : World) : Exit → Act → World → Prop
  | .normal, _, W' => KeepsOthers W W' ∧ Below n₀ W W' ∧ I xs W'
  | _, _, _ => False

/-- an iterator, called with its receiver and yield, hands all of xs to its rounds -/
def Gives {α : Type} (P : Program) (gf : FuncId) (rv : Value) (encs : α → Array Value) (m n₀ : Nat) (xs : List α) (w : World) : Prop :=
  ∀ (l : Nat) (J : List α → World → Prop) (W : World), Below w.heap.size w W → (∀ s A B, J s A → Below A.heap.size A B → J s B) →
    (∀ pre x W1, J pre W1 → pre ++ [x] <+: xs → YieldAt Fence.wide m P l (encs x) W1 fun e W' => e = .returned (.bool true) ∧ J (pre ++ [x]) W' ∧ Below n₀ W1 W') → J [] W →
    CallsIn Fence.wide (m + 1) P gf #[rv, .func (.yield l) #[] #[]] W fun e W' => (∃ v, e = .returned v) ∧ J xs W'

theorem grown_of_below {A B : World} (h : Below A.heap.size A B) : A.grownBy B none := ⟨h.os, h.tape, h.output, h.size, fun k hk _ => h.block k hk⟩

theorem wp_range_method {α : Type} {m : Nat} {P : Program} {g : Operand} {ps : Array Tmp} {assign body : Code} {Q : Exit → Act → World → Prop} {a : Act} {w : World} {t : TypeId} {rv : Value} {nm : String} {gf : FuncId} {n₀ : Nat}
    (hg : a.eval g = .func (.method nm) #[.iface t rv] #[]) (hm : ∀ W, (method (P.types.size + Made.depth) t rv nm).run P W = .ok (gf, rv) W) (eg : ∀ args w, (callFunc gf args).run P w = .ok (.enter gf args) w)
    {encs : α → Array Value} (hps : ∀ x, (encs x).size = ps.size) {xs : List α} (hn : n₀ ≤ w.heap.size) (iter : Gives P gf rv encs m n₀ xs w)
    (I : List α → World → Prop) (hI : OwnFrom w.heap.size I) (h0 : I [] w) (a₁ : α → Act)
    (hassign : ∀ (l : Nat) (x : α) (W : World) (K : Act → World → Prop), K (a₁ x) W →
      assign.wpIn (Fence.wide.inRound l) m P (Exit.then K (fun _ _ _ => False)) { tmps := (ps.zip (encs x)).foldl (fun t (p, v) => t.setIfInBounds p v) a.tmps, defers := [] } W)
    (hbody : ∀ (l : Nat) (pre : List α) (x : α) (W : World), I pre W → pre ++ [x] <+: xs → body.wpIn (Fence.wide.inRound l) m P (goesOn n₀ I (pre ++ [x]) W) (a₁ x) W)
    (hdone : ∀ (D : Nat) (W : World), w.heap.size ≤ D → I xs W → W.heap[D]? = some (.deferred (some [])) → Q .normal { a with defers := { target := .collected D, args := #[] } :: a.defers } W) :
    (Code.rangeFunc g ps assign body).wpIn Fence.wide (m + 2) P Q a w := by
  refine wpIn_rangeFunc ?_
  intro fn hfn
  obtain ⟨D, hD⟩ : ∃ D, D = w.heap.size := ⟨_, rfl⟩
  obtain ⟨r0, hr0⟩ : ∃ r : Loop, r = { state := .ready, pending := none, fn, tmps := a.tmps, params := ps, assign, body, defers := w.heap.size } := ⟨_, rfl⟩
  have hen := run_enterLoop_outer (P := P) (w := w) fn a.tmps ps assign body
  rw [← hr0] at hen
  have f1 : r0.fn = fn := by rw [hr0]
  have f2 : r0.assign = assign := by rw [hr0]
  have f3 : r0.body = body := by rw [hr0]
  have f4 : r0.tmps = a.tmps := by rw [hr0]
  have f5 : r0.params = ps := by rw [hr0]
  have f6 : r0.state = .ready := by rw [hr0]
  have f7 : r0.pending = none := by rw [hr0]
  have f8 : ({ r0 with state := .ready, pending := none } : Loop) = r0 := by rw [hr0]
  have k0 : ((w.alloc (.deferred (some []))).alloc (.loop r0)).heap[D]? = some (.deferred (some [])) := by
    rw [hD]; exact (Below.heap_alloc _ _ _ (by simp)).trans (World.alloc_heap_new w _)
  have k1 : ((w.alloc (.deferred (some []))).alloc (.loop r0)).heap[D + 1]? = some (.loop r0) := by
    have := World.alloc_heap_new (w.alloc (.deferred (some []))) (.loop r0)
    rw [World.size_alloc, ← hD] at this; exact this
  have hb1 : Below w.heap.size w ((w.alloc (.deferred (some []))).alloc (.loop r0)) := ((Below.refl _ w).alloc (Nat.le_refl _) _).alloc (by simp) _
  have hI1 : I [] ((w.alloc (.deferred (some []))).alloc (.loop r0)) := hI.alloc _ (hI.alloc _ h0)
  generalize hW1 : (w.alloc (.deferred (some []))).alloc (.loop r0) = W1 at *
  rw [← hD] at hen hb1 hI hn
  have AB : ∀ s A B, (I s A ∧ A.heap[D + 1]? = some (.loop r0) ∧ A.heap[D]? = some (.deferred (some []))) → Below A.heap.size A B → (I s B ∧ B.heap[D + 1]? = some (.loop r0) ∧ B.heap[D]? = some (.deferred (some []))) := fun s A B h hb =>
    ⟨hI s A B none h.1 (grown_of_below hb) (fun r e => by cases e), (hb.block _ (Array.getElem?_eq_some_iff.1 h.2.1).1).trans h.2.1, (hb.block _ (Array.getElem?_eq_some_iff.1 h.2.2).1).trans h.2.2⟩
  refine ⟨D + 1, _, W1, { target := .fn (.method nm) #[], args := #[.iface t rv, .func (.yield (D + 1)) #[] #[]] }, W1, gf, #[rv, .func (.yield (D + 1)) #[] #[]], W1, hen, ?_, fun _ _ => trivial, ?_, fun h => (by cases h), ?_⟩
  · simp only [resolve, hg]
    simp [go_sem, Deferred.ofValue]
  · have hm1 := hm W1
    rw [show Made.depth = 100 from rfl] at hm1
    simp only [invoke, callMethod]
    simp [go_sem]
    rw [hm1]
    exact eg _ _
  · refine (iter (D + 1) (fun pre W => I pre W ∧ W.heap[D + 1]? = some (.loop r0) ∧ W.heap[D]? = some (.deferred (some []))) W1 (by rw [← hD]; exact hb1) AB ?_ ⟨hI1, k1, k0⟩).mono ?_
    · rintro pre x W ⟨hi, hl, hk⟩ hpre
      have hy := run_yield (P := P) (args := encs x) hl (by rw [f5]; exact hps x)
      rw [f1, f2, f3, f4, f5] at hy
      have hlt : D + 1 < W.heap.size := (Array.getElem?_eq_some_iff.1 hl).1
      refine ⟨fn, _, assign, body, hy, roundIn_of_wpIn hfn (hassign _ x W _ ⟨_, run_beginRound hl f6, ?_⟩)⟩
      have hl2 : (W.putObj (D + 1) (.loop { r0 with state := .busy })).heap[D + 1]? = some (.loop { r0 with state := .busy }) := World.putObj_heap_same hlt
      have hk2 : (W.putObj (D + 1) (.loop { r0 with state := .busy })).heap[D]? = some (.deferred (some [])) := (World.putObj_heap_other (by omega)).trans hk
      have hi2 := hI.putObj (.loop { r0 with state := .busy }) hi (by omega) hl rfl
      have hb2 : Below n₀ W (W.putObj (D + 1) (.loop { r0 with state := .busy })) := belowK_b (w := w) (by omega) W (D + 1) _ _ (by omega) hl rfl rfl
      refine wpIn_mono (hbody (D + 1) pre x _ hi2 hpre) ?_
      rintro e a3 W3 hp
      cases e with
      | normal =>
        obtain ⟨hk3, hkp3, hi3⟩ := hp
        have hl3 := hk3.same _ _ hl2 rfl
        have hd3 := hk3.same _ _ hk2 rfl
        have hend := run_endRound (P := P) none hl3
        simp only [Option.isNone_none, if_true] at hend
        rw [f8] at hend
        exact ⟨_, _, hend, rfl, ⟨hI.putObj _ hi3 (by omega) hl3 rfl, World.putObj_heap_same (Array.getElem?_eq_some_iff.1 hl3).1, (World.putObj_heap_other (by omega)).trans hd3⟩, (hb2.trans hkp3).trans (belowK_b (w := w) (by omega) W3 (D + 1) _ _ (by omega) hl3 rfl rfl)⟩
      | _ => exact hp.elim
    · rintro e W2 ⟨⟨v, rfl⟩, hi, hl, hk⟩
      have hend := run_endLoop (P := P) hl (by rw [f6]; simp)
      rw [f7] at hend
      exact ⟨none, _, hend, hdone _ _ (by omega) (hI.putObj _ hi (by omega) hl rfl) ((World.putObj_heap_other (by omega)).trans hk)⟩
end Go.Proofs.YtmbjhfkpmgkkbaaGreatDoor
