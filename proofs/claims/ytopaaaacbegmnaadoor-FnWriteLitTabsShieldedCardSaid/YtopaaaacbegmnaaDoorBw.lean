/-
  The walks of bufio.Writer's Available, Buffered, Flush, WriteByte. Conditions: those in each theorem.
-/
import Derived.Test.YtopaaaacbegmnaaDoorSt
namespace Go.Proofs.YtopaaaacbegmnaaDoor
set_option linter.unusedVariables false
open Go.Shelf Go.RowKit Go.Lib

theorem FrS.ofDrew {S : Nat → Prop} {v v' : Value} {w w' : World} {d : Nat} (h : FrS S v v' (w.drewN d) w') : FrS S v v' w w' := ⟨h.os, h.tape, h.output, h.size, h.block, h.own⟩
theorem FrS.toDrew (S : Nat → Prop) (v : Value) (w : World) (d : Nat) : FrS S v v w (w.drewN d) := ⟨rfl, rfl, rfl, Nat.le_refl _, fun _ _ _ _ => rfl, .inl rfl⟩
theorem BW.drewN {B b k r : Nat} {fl pend : List UInt8} {v : Value} {rc : Array Value} {w : World} (h : BW B b k r fl pend v rc w) (d : Nat) : BW B b k r fl pend v rc (w.drewN d) := h.kept (fun _ _ => rfl) (fun _ _ => rfl)

/-- the bytes that have been written so far -/
def BS (B b k r : Nat) (out : List UInt8) (v : Value) (w : World) : Prop := ∃ fl pend rc, out = fl ++ pend ∧ BW B b k r fl pend v rc w
/-- what a write leaves -/
def EmitOut (B b k r : Nat) (out : List UInt8) (v : Value) (w : World) (e : Ending) (w' : World) : Prop :=
  e = .returned .nilIface ∧ ∃ v', BS B b k r out v' w' ∧ FrS (S3 b k r) v v' w w'

/-- what a call that hands back nil leaves -/
def BwOut (B b k r : Nat) (fl pend : List UInt8) (v : Value) (w : World) (e : Ending) (w' : World) : Prop :=
  e = .returned .nilIface ∧ ∃ v' rc', BW B b k r fl pend v' rc' w' ∧ FrS (S3 b k r) v v' w w'

theorem BW.c0 {B b k r : Nat} {fl pend : List UInt8} {v : Value} {rc : Array Value} {w : World} (h : BW B b k r fl pend v rc w) : w.cell? ⟨k, 0, none⟩ = some .nilIface := by rw [Lib.cell_of_heap h.wr]; rfl
theorem BW.c1 {B b k r : Nat} {fl pend : List UInt8} {v : Value} {rc : Array Value} {w : World} (h : BW B b k r fl pend v rc w) : w.cell? ⟨k, 1, none⟩ = some (.slice (some ⟨r, 0, none⟩) 4096 4096) := by rw [Lib.cell_of_heap h.wr]; rfl
theorem BW.c2 {B b k r : Nat} {fl pend : List UInt8} {v : Value} {rc : Array Value} {w : World} (h : BW B b k r fl pend v rc w) : w.cell? ⟨k, 2, none⟩ = some (.int .i64 pend.length) := by rw [Lib.cell_of_heap h.wr]; rfl
theorem BW.c3 {B b k r : Nat} {fl pend : List UInt8} {v : Value} {rc : Array Value} {w : World} (h : BW B b k r fl pend v rc w) : w.cell? ⟨k, 3, none⟩ = some (.iface 29 (.pointer (some ⟨b, 0, none⟩))) := by rw [Lib.cell_of_heap h.wr]; rfl
theorem BW.f {B b k r : Nat} {fl pend : List UInt8} {v : Value} {rc : Array Value} {w : World} (h : BW B b k r fl pend v rc w) (i : Nat) : w.frozen? ⟨k, i, none⟩ = false := Lib.frozen_of_heap h.wr i

set_option maxRecDepth 20000 in
theorem bw_avail (k n : Nat) (r : Nat) (w : World) (c1 : w.cell? ⟨k, 1, none⟩ = some (.slice (some ⟨r, 0, none⟩) 4096 4096)) (c2 : w.cell? ⟨k, 2, none⟩ = some (.int .i64 n)) (hn : n ≤ 4096) :
    Calls Tryd.prog 88 #[.pointer (some ⟨k, 0, none⟩)] w fun e w' => e = .returned (.int .i64 (4096 - n : Int)) ∧ ∃ d, w' = w.drewN d := by
  go_enter Tryd.func88, Tryd.ntmps88
  go_wp2
  go_big_region
  go_wp2
  go_ret
  exact ⟨rfl, 1, rfl⟩
set_option maxRecDepth 20000 in
theorem bw_buffered (k n : Nat) (w : World) (c2 : w.cell? ⟨k, 2, none⟩ = some (.int .i64 n)) :
    Calls Tryd.prog 92 #[.pointer (some ⟨k, 0, none⟩)] w fun e w' => e = .returned (.int .i64 n) ∧ w' = w := by
  go_enter Tryd.func92, Tryd.ntmps92
  go_wp2
  go_ret
  exact ⟨rfl, rfl⟩

set_option maxRecDepth 20000 in
set_option maxHeartbeats 2000000 in
theorem bw_flush (B b k r : Nat) (fl pend : List UInt8) (v : Value) (rc : Array Value) (w : World) (h : BW B b k r fl pend v rc w) (hB : B ≤ w.heap.size) (hl : fl.length + 4096 ≤ 1073741824) :
    Calls Tryd.prog 21 #[.pointer (some ⟨k, 0, none⟩)] w (BwOut B b k r (fl ++ pend) [] v w) := by
  have meth : ∀ w, (method 308 29 (.pointer (some ⟨b, 0, none⟩)) "Write").run Tryd.prog w = .ok (87, .pointer (some ⟨b, 0, none⟩)) w := fun w => by kernel_rfl
  have c0 := h.c0
  have c1 := h.c1
  have c2 := h.c2
  have c3 := h.c3
  have hf := h.fits
  have H := Lib.hid h
  obtain ⟨n, hn⟩ : ∃ n, n = pend.length := ⟨_, rfl⟩
  rw [← hn] at c2 hf
  have HN := Lib.hid hn
  clear h hn
  by_cases h0 : n = 0
  · go_enter Tryd.func21, Tryd.ntmps21
    go_wp2
    go_ret
    have hp : pend = [] := List.eq_nil_of_length_eq_zero (by have := HN.out; omega)
    have hh := H.out
    rw [hp] at hh
    exact ⟨rfl, v, rc, by rw [hp, List.append_nil]; exact hh, FrS.refl _ _ _⟩
  · have WR : Hid (∀ W, (BW B b k r fl pend v rc W) → Calls Tryd.prog 87 #[.pointer (some ⟨b, 0, none⟩), .slice (some ⟨r, 0, none⟩) n 4096] W (WriteOut b n fl pend v W)) := Lib.hid fun W hW => buf_write b r n 4096 fl pend v rc W hW.buf hW.row HN.out.symm (by rw [HN.out]; exact hW.held) (by omega) (by omega)
    have mixed : Tryd.prog.follows .mixedOrders = true := by kernel_rfl
    go_enter Tryd.func21, Tryd.ntmps21
    go_wp2
    go_region_with_o (
      go_at_call 87
      refine (WR.out _ ?_).mono ?_
      exact H.out.kept (fun _ _ => rfl) (fun _ _ => rfl)
      rintro e w1 ⟨rfl, v', hb, hfr⟩
      have h1 := BW.over (H.out.kept (w' := w.drew) (fun _ _ => rfl) (fun _ _ => rfl)) hB hb hfr
      have d2 := h1.c2
      have e2 := h1.f 2
      rw [← HN.out] at d2
      have H1 := Lib.hid h1
      clear h1 hb)
    all_goals (
      go_wp2
      go_ret
      have h2 := H1.out.count (p2 := []) (by simp [Lib.byteCells]) (by simp)
      have f2 : FrS (S3 b k r) v v' w w1 := FrS.ofDrew (d := 1) (hfr.frS (.inl rfl))
      exact ⟨rfl, v', rc, by simpa using h2, f2.setCell (a := ⟨k, 2, none⟩) (.inr (.inl rfl)) _⟩)
end Go.Proofs.YtopaaaacbegmnaaDoor
