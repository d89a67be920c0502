/-
  The walks of zzDone, zzPos, spacedString and spacedToken. Conditions: those in each theorem.
-/
import Derived.Test.YtonhphjejlidiaaN44
import Derived.Test.YtonhphjejlidiaaPdT
namespace Go.Proofs.Ytonhphjejlidiaa
set_option linter.unusedVariables false
open Go.Shelf Go.RowKit Go.Lib

/-- the state that zzDone hands out -/
def outS (out : List UInt8) (f : PF) : Value := .agg #[.string ⟨out.toArray⟩, .int .u64 f.line, .int .u64 f.last, .int .u8 f.ws, .bool f.wn, .bool f.mn]

theorem m_flushF (k : Nat) (w : World) : (method 373 79 (.pointer (some ⟨k, 0, none⟩)) "Flush").run Try.prog w = .ok (126, .pointer (some ⟨k, 0, none⟩)) w := by kernel_rfl

theorem bw_lt {B b k r : Nat} {fl pend : List UInt8} {v : Value} {rc : Array Value} {w : World} (h : BW B b k r fl pend v rc w) : ∀ i, S3 b k r i → i < w.heap.size := by
  rintro i (rfl | rfl | rfl)
  · exact h.buf.lt
  · exact Lib.lt_of_heap h.wr
  · exact Lib.lt_of_heap h.row

theorem put6 {W : World} {b : Nat} {t : TypeId} (u0 u1 u2 u3 u4 u5 v0 v1 v2 v3 v4 v5 : Value) (h : W.heap[b]? = some (.cells #[u0, u1, u2, u3, u4, u5] t (0, 0))) :
    ((((((W.setCell ⟨b, 0, none⟩ v0).setCell ⟨b, 1, none⟩ v1).setCell ⟨b, 2, none⟩ v2).setCell ⟨b, 3, none⟩ v3).setCell ⟨b, 4, none⟩ v4).setCell ⟨b, 5, none⟩ v5).heap[b]? = some (.cells #[v0, v1, v2, v3, v4, v5] t (0, 0)) :=
  Lib.heap_setCell_same (i := 5) (Lib.heap_setCell_same (i := 4) (Lib.heap_setCell_same (i := 3) (Lib.heap_setCell_same (i := 2) (Lib.heap_setCell_same (i := 1) (Lib.heap_setCell_same (i := 0) h v0) v1) v2) v3) v4) v5
theorem put6_other {W : World} {b i : Nat} (v0 v1 v2 v3 v4 v5 : Value) (h : i ≠ b) :
    ((((((W.setCell ⟨b, 0, none⟩ v0).setCell ⟨b, 1, none⟩ v1).setCell ⟨b, 2, none⟩ v2).setCell ⟨b, 3, none⟩ v3).setCell ⟨b, 4, none⟩ v4).setCell ⟨b, 5, none⟩ v5).heap[i]? = W.heap[i]? := by
  rw [Below.heap_setCell _ _ _ _ h, Below.heap_setCell _ _ _ _ h, Below.heap_setCell _ _ _ _ h, Below.heap_setCell _ _ _ _ h, Below.heap_setCell _ _ _ _ h, Below.heap_setCell _ _ _ _ h]
theorem set_os (W : World) (a : Addr) (x : Value) : (W.setCell a x).os = W.os := rfl
theorem set_tape (W : World) (a : Addr) (x : Value) : (W.setCell a x).tape = W.tape := rfl
theorem set_output (W : World) (a : Addr) (x : Value) : (W.setCell a x).output = W.output := rfl
theorem set_size (W : World) (a : Addr) (x : Value) : (W.setCell a x).heap.size = W.heap.size := by simp [World.setCell]
/-- one block of the world has been written anew -/
structure Wr1 (b : Nat) (w w' : World) : Prop where
  os : w'.os = w.os
  tape : w'.tape = w.tape
  output : w'.output = w.output
  size : w'.heap.size = w.heap.size
  block : ∀ i, i ≠ b → w'.heap[i]? = w.heap[i]?
theorem Wr1.refl (b : Nat) (w : World) : Wr1 b w w := ⟨rfl, rfl, rfl, rfl, fun _ _ => rfl⟩
theorem Wr1.set {b : Nat} {w w' : World} (h : Wr1 b w w') (i : Nat) (x : Value) : Wr1 b w (w'.setCell ⟨b, i, none⟩ x) :=
  ⟨(set_os _ _ _).trans h.os, (set_tape _ _ _).trans h.tape, (set_output _ _ _).trans h.output, (set_size _ _ _).trans h.size, fun j hj => (Below.heap_setCell _ _ _ _ hj).trans (h.block j hj)⟩
theorem Wr1.drewN {b : Nat} (w : World) (n : Nat) : Wr1 b w (w.drewN n) := ⟨rfl, rfl, rfl, rfl, fun _ _ => rfl⟩
theorem done_fin {B b k r p tw : Nat} {kp : Bool} {out : List UInt8} {f : PF} {v v' : Value} {w w1 w' : World} {x : Obj} (h2 : FrS (S3 b k r) v v' (w.alloc x) w1) (p1 : PS B b k r p tw kp out f v' w1)
    (hr : Wr1 w.heap.size w1 w') (hp : p < w.heap.size) (hS : ∀ i, S3 b k r i → i < w.heap.size) (hv0 : v.ownBlock ≠ some w.heap.size) :
    PS B b k r p tw kp out f v' w' ∧ FrS (S4 b k r p) v v' w w' := by
  obtain ⟨ho, htp, hou, hsz, hh⟩ := hr
  have hal : (w.alloc x).heap.size = w.heap.size + 1 := by simp
  have hown : v'.ownBlock = v.ownBlock ∨ ∃ g, v'.ownBlock = some g ∧ w.heap.size + 1 ≤ g := by rw [← hal]; exact h2.own
  refine ⟨p1.kept (fun i hi _ => hh i ?_) (fun g hg _ => hh g ?_), ⟨ho.trans h2.os, htp.trans h2.tape, hou.trans h2.output, ?_, fun i hi hn hv => ?_, ?_⟩⟩
  · rcases hi with hi | hi
    · exact Nat.ne_of_lt (hS i hi)
    · rw [hi]; exact Nat.ne_of_lt hp
  · rintro rfl
    rcases hown with o | ⟨g', o, hg'⟩
    · rw [o] at hg; exact hv0 hg
    · rw [o] at hg; cases hg; omega
  · have := h2.size; omega
  · exact (hh i (Nat.ne_of_lt hi)).trans ((h2.block i (by omega) (fun e => hn (.inl e)) hv).trans (Below.heap_alloc _ _ i hi))
  · rcases hown with o | ⟨g, o, hg⟩
    · exact .inl o
    · exact .inr ⟨g, o, by omega⟩

set_option maxRecDepth 20000 in
set_option maxHeartbeats 4000000 in
theorem done46 (B b k r p tw : Nat) (kp : Bool) (out : List UInt8) (f : PF) (v : Value) (w : World) (h : PS B b k r p tw kp out f v w) (hl : out.length + 4096 ≤ 1073741824) (hws : f.ws ≤ 2) :
    Calls Try.prog 46 #[.pointer (some ⟨p, 0, none⟩), .pointer (some ⟨b, 0, none⟩)] w (PEmit B b k r p tw kp out f v w (outS out f)) := by
  obtain ⟨fl, pend, rc, ho, hb⟩ := h.bs
  have hlo := congrArg List.length ho
  rw [List.length_append] at hlo
  have hg := fun (x : Obj) => h.grew (w' := w.alloc x) (fun i hi => Below.heap_alloc _ _ i hi)
  have FLx : ∀ x, Calls Try.prog 126 #[.pointer (some ⟨k, 0, none⟩)] (w.alloc x) (BwOut B b k r (fl ++ pend) [] v (w.alloc x)) := fun x => bw_flush B b k r fl pend v rc (w.alloc x) (hb.kept (fun i hi => Below.heap_alloc _ _ i (bw_lt hb i hi)) (fun g hg => Below.heap_alloc _ _ g (hb.buf.own_lt g hg).1)) (Nat.le_trans h.ge (by simp)) (by omega)
  have FL := Lib.hid FLx
  have HG := Lib.hid hg
  have HO := Lib.hid ho
  have hwi : (f.ws : Int) ≤ 2 := by omega
  cases kp
  · have c0 : ∀ x, (w.alloc x).cell? ⟨p, 0, none⟩ = some (.iface 79 (.pointer (some ⟨k, 0, none⟩))) := fun x => by rw [(hg x).c]; rfl
    have mm := m_flushF k
    have HP := Lib.hid h.lt
    have HS3 := Lib.hid (bw_lt hb)
    have HOW : Hid (v.ownBlock ≠ some w.heap.size) := Lib.hid fun e => Nat.lt_irrefl _ (hb.buf.own_lt _ e).1
    clear h ho hb hg FLx
    go_enter Try.func46, Try.ntmps46
    go_wp2_with (first | (go_at_call 126; refine (FL.out _).mono ?_; rintro e w1 ⟨rfl, v', rc', h1, h2⟩; have H1 : Hid (BS B b k r out v' w1) := Lib.hid ⟨fl ++ pend, [], rc', by rw [List.append_nil]; exact HO.out, h1⟩; have H2 := Lib.hid h2; have hbb := (h1.buf.kept (w' := w1.drew) rfl (fun _ _ => rfl)).isBuffer; rw [← HO.out] at hbb; have ST := Lib.hid (Try.Buffer_String 0 b _ w1.drew hbb); clear h1 h2 hbb FL))
    have P1 := Lib.hid ((HG.out _).wrote H1.out H2.out)
    have k19 : w1.cell? ⟨p, 19, none⟩ = some (.int .u64 f.line) := by rw [P1.out.c]; rfl
    have k20 : w1.cell? ⟨p, 20, none⟩ = some (.int .u64 f.last) := by rw [P1.out.c]; rfl
    have k13 : w1.cell? ⟨p, 13, none⟩ = some (.int .u8 f.ws) := by rw [P1.out.c]; rfl
    have k14 : w1.cell? ⟨p, 14, none⟩ = some (.bool f.wn) := by rw [P1.out.c]; rfl
    have k15 : w1.cell? ⟨p, 15, none⟩ = some (.bool f.mn) := by rw [P1.out.c]; rfl
    have hR0 := heap_alloc_new w (.cells #[.string ⟨#[]⟩, .int .u64 0, .int .u64 0, .int .u8 0, .bool false, .bool false] 27)
    have hR : w1.heap[w.heap.size]? = some (.cells #[.string ⟨#[]⟩, .int .u64 0, .int .u64 0, .int .u8 0, .bool false, .bool false] 27 (0, 0)) := (H2.out.block w.heap.size (by simp) (fun e => Nat.lt_irrefl _ (HS3.out _ e)) (HOW.out)).trans hR0
    have zc := fun (n : Nat) (i : Nat) => Lib.cell_of_heap (w := w1.drewN n) (b := w.heap.size) hR i
    have zf := fun (n : Nat) (i : Nat) => Lib.frozen_of_heap (w := w1.drewN n) (b := w.heap.size) hR i
    have z0 : ∀ n, (w1.drewN n).cell? ⟨w.heap.size, 0, none⟩ = some (.string ⟨#[]⟩) := fun n => zc n 0
    have z1 : ∀ n, (w1.drewN n).cell? ⟨w.heap.size, 1, none⟩ = some (.int .u64 0) := fun n => zc n 1
    have z2 : ∀ n, (w1.drewN n).cell? ⟨w.heap.size, 2, none⟩ = some (.int .u64 0) := fun n => zc n 2
    have z3 : ∀ n, (w1.drewN n).cell? ⟨w.heap.size, 3, none⟩ = some (.int .u8 0) := fun n => zc n 3
    have z4 : ∀ n, (w1.drewN n).cell? ⟨w.heap.size, 4, none⟩ = some (.bool false) := fun n => zc n 4
    have z5 : ∀ n, (w1.drewN n).cell? ⟨w.heap.size, 5, none⟩ = some (.bool false) := fun n => zc n 5
    have HZ := Lib.hid hR
    have hnp : w.heap.size ≠ p := Nat.ne_of_gt HP.out
    have e19 : ∀ n, (w1.drewN n).cell? ⟨p, 19, none⟩ = some (.int .u64 f.line) := fun n => by rw [World.cell?_drewN]; exact k19
    have e20 : ∀ n, (w1.drewN n).cell? ⟨p, 20, none⟩ = some (.int .u64 f.last) := fun n => by rw [World.cell?_drewN]; exact k20
    have e13 : ∀ n, (w1.drewN n).cell? ⟨p, 13, none⟩ = some (.int .u8 f.ws) := fun n => by rw [World.cell?_drewN]; exact k13
    have e14 : ∀ n, (w1.drewN n).cell? ⟨p, 14, none⟩ = some (.bool f.wn) := fun n => by rw [World.cell?_drewN]; exact k14
    have e15 : ∀ n, (w1.drewN n).cell? ⟨p, 15, none⟩ = some (.bool f.mn) := fun n => by rw [World.cell?_drewN]; exact k15
    have ns : ∀ (W : World) (j i : Nat) (x : Value), (W.setCell ⟨w.heap.size, i, none⟩ x).cell? ⟨p, j, none⟩ = W.cell? ⟨p, j, none⟩ := fun W j i x => World.cell?_of_block (a := ⟨p, j, none⟩) (Below.heap_setCell _ _ _ _ (Ne.symm hnp))
    clear c0 hR0 hR zc
    go_region_held3 (fun W => W.cell? ⟨p, 19, none⟩ = some (.int .u64 f.line) ∧ W.cell? ⟨p, 20, none⟩ = some (.int .u64 f.last) ∧ W.cell? ⟨p, 13, none⟩ = some (.int .u8 f.ws) ∧ W.cell? ⟨p, 14, none⟩ = some (.bool f.wn) ∧ W.cell? ⟨p, 15, none⟩ = some (.bool f.mn)) (first | (simp only [World.cell?_drew]; exact ⟨k19, k20, k13, k14, k15⟩) | (simp only [ns]; exact ⟨e19 _, e20 _, e13 _, e14 _, e15 _⟩) | (exact ⟨e19 _, e20 _, e13 _, e14 _, e15 _⟩))
      (first | (go_at_call 53; refine ST.out.mono ?_; rintro e w2 ⟨rfl, d, rfl⟩))
    go_wp2
    have hF := put6 (W := w1.drewN (1 + d)) _ _ _ _ _ _ (.string ⟨out.toArray⟩) (.int .u64 f.line) (.int .u64 f.last) (.int .u8 f.ws) (.bool f.wn) (.bool f.mn) HZ.out
    refine bodyPost_ret (v := outS out f) ?_ rfl ⟨rfl, v', done_fin H2.out P1.out (((((((Wr1.drewN w1 (1 + d)).set 0 _).set 1 _).set 2 _).set 3 _).set 4 _).set 5 _) HP.out HS3.out HOW.out⟩
    simp [results, outS, Try.results46, go_sem, Lib.cell_of_heap hF]
  · have c0 : ∀ x, (w.alloc x).cell? ⟨p, 0, none⟩ = some (.iface 134 (.pointer (some ⟨p, 2, none⟩))) := fun x => by rw [(hg x).c]; rfl
    have c2 : ∀ x, (w.alloc x).cell? ⟨p, 2, none⟩ = some (.pointer (some ⟨k, 0, none⟩)) := fun x => by rw [(hg x).c]; rfl
    have mm := fun x => m_flushT p k _ (c2 x)
    have HP := Lib.hid h.lt
    have HS3 := Lib.hid (bw_lt hb)
    have HOW : Hid (v.ownBlock ≠ some w.heap.size) := Lib.hid fun e => Nat.lt_irrefl _ (hb.buf.own_lt _ e).1
    clear h ho hb hg FLx
    go_enter Try.func46, Try.ntmps46
    go_wp2_with (first | (go_at_call 126; refine (FL.out _).mono ?_; rintro e w1 ⟨rfl, v', rc', h1, h2⟩; have H1 : Hid (BS B b k r out v' w1) := Lib.hid ⟨fl ++ pend, [], rc', by rw [List.append_nil]; exact HO.out, h1⟩; have H2 := Lib.hid h2; have hbb := (h1.buf.kept (w' := w1.drew) rfl (fun _ _ => rfl)).isBuffer; rw [← HO.out] at hbb; have ST := Lib.hid (Try.Buffer_String 0 b _ w1.drew hbb); clear h1 h2 hbb FL))
    have P1 := Lib.hid ((HG.out _).wrote H1.out H2.out)
    have k19 : w1.cell? ⟨p, 19, none⟩ = some (.int .u64 f.line) := by rw [P1.out.c]; rfl
    have k20 : w1.cell? ⟨p, 20, none⟩ = some (.int .u64 f.last) := by rw [P1.out.c]; rfl
    have k13 : w1.cell? ⟨p, 13, none⟩ = some (.int .u8 f.ws) := by rw [P1.out.c]; rfl
    have k14 : w1.cell? ⟨p, 14, none⟩ = some (.bool f.wn) := by rw [P1.out.c]; rfl
    have k15 : w1.cell? ⟨p, 15, none⟩ = some (.bool f.mn) := by rw [P1.out.c]; rfl
    have hR0 := heap_alloc_new w (.cells #[.string ⟨#[]⟩, .int .u64 0, .int .u64 0, .int .u8 0, .bool false, .bool false] 27)
    have hR : w1.heap[w.heap.size]? = some (.cells #[.string ⟨#[]⟩, .int .u64 0, .int .u64 0, .int .u8 0, .bool false, .bool false] 27 (0, 0)) := (H2.out.block w.heap.size (by simp) (fun e => Nat.lt_irrefl _ (HS3.out _ e)) (HOW.out)).trans hR0
    have zc := fun (n : Nat) (i : Nat) => Lib.cell_of_heap (w := w1.drewN n) (b := w.heap.size) hR i
    have zf := fun (n : Nat) (i : Nat) => Lib.frozen_of_heap (w := w1.drewN n) (b := w.heap.size) hR i
    have z0 : ∀ n, (w1.drewN n).cell? ⟨w.heap.size, 0, none⟩ = some (.string ⟨#[]⟩) := fun n => zc n 0
    have z1 : ∀ n, (w1.drewN n).cell? ⟨w.heap.size, 1, none⟩ = some (.int .u64 0) := fun n => zc n 1
    have z2 : ∀ n, (w1.drewN n).cell? ⟨w.heap.size, 2, none⟩ = some (.int .u64 0) := fun n => zc n 2
    have z3 : ∀ n, (w1.drewN n).cell? ⟨w.heap.size, 3, none⟩ = some (.int .u8 0) := fun n => zc n 3
    have z4 : ∀ n, (w1.drewN n).cell? ⟨w.heap.size, 4, none⟩ = some (.bool false) := fun n => zc n 4
    have z5 : ∀ n, (w1.drewN n).cell? ⟨w.heap.size, 5, none⟩ = some (.bool false) := fun n => zc n 5
    have HZ := Lib.hid hR
    have hnp : w.heap.size ≠ p := Nat.ne_of_gt HP.out
    have e19 : ∀ n, (w1.drewN n).cell? ⟨p, 19, none⟩ = some (.int .u64 f.line) := fun n => by rw [World.cell?_drewN]; exact k19
    have e20 : ∀ n, (w1.drewN n).cell? ⟨p, 20, none⟩ = some (.int .u64 f.last) := fun n => by rw [World.cell?_drewN]; exact k20
    have e13 : ∀ n, (w1.drewN n).cell? ⟨p, 13, none⟩ = some (.int .u8 f.ws) := fun n => by rw [World.cell?_drewN]; exact k13
    have e14 : ∀ n, (w1.drewN n).cell? ⟨p, 14, none⟩ = some (.bool f.wn) := fun n => by rw [World.cell?_drewN]; exact k14
    have e15 : ∀ n, (w1.drewN n).cell? ⟨p, 15, none⟩ = some (.bool f.mn) := fun n => by rw [World.cell?_drewN]; exact k15
    have ns : ∀ (W : World) (j i : Nat) (x : Value), (W.setCell ⟨w.heap.size, i, none⟩ x).cell? ⟨p, j, none⟩ = W.cell? ⟨p, j, none⟩ := fun W j i x => World.cell?_of_block (a := ⟨p, j, none⟩) (Below.heap_setCell _ _ _ _ (Ne.symm hnp))
    clear c0 c2 mm hR0 hR zc
    go_region_held3 (fun W => W.cell? ⟨p, 19, none⟩ = some (.int .u64 f.line) ∧ W.cell? ⟨p, 20, none⟩ = some (.int .u64 f.last) ∧ W.cell? ⟨p, 13, none⟩ = some (.int .u8 f.ws) ∧ W.cell? ⟨p, 14, none⟩ = some (.bool f.wn) ∧ W.cell? ⟨p, 15, none⟩ = some (.bool f.mn)) (first | (simp only [World.cell?_drew]; exact ⟨k19, k20, k13, k14, k15⟩) | (simp only [ns]; exact ⟨e19 _, e20 _, e13 _, e14 _, e15 _⟩) | (exact ⟨e19 _, e20 _, e13 _, e14 _, e15 _⟩))
      (first | (go_at_call 53; refine ST.out.mono ?_; rintro e w2 ⟨rfl, d, rfl⟩))
    go_wp2
    have hF := put6 (W := w1.drewN (1 + d)) _ _ _ _ _ _ (.string ⟨out.toArray⟩) (.int .u64 f.line) (.int .u64 f.last) (.int .u8 f.ws) (.bool f.wn) (.bool f.mn) HZ.out
    refine bodyPost_ret (v := outS out f) ?_ rfl ⟨rfl, v', done_fin H2.out P1.out (((((((Wr1.drewN w1 (1 + d)).set 0 _).set 1 _).set 2 _).set 3 _).set 4 _).set 5 _) HP.out HS3.out HOW.out⟩
    simp [results, outS, Try.results46, go_sem, Lib.cell_of_heap hF]
end Go.Proofs.Ytonhphjejlidiaa
