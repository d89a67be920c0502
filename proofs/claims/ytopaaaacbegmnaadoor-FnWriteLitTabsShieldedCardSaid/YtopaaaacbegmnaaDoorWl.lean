/-
  The walks of bufio.NewWriter over the keeping sink, of the printer's writeLit and of the law's door to it. Conditions: those in each theorem.
-/
import Derived.Test.YtopaaaacbegmnaaDoorBd
import Derived.Test.YtopaaaacbegmnaaDoorIx
namespace Go.Proofs.YtopaaaacbegmnaaDoor
set_option linter.unusedVariables false
open Go.Shelf Go.RowKit Go.Lib

theorem make26 : ∃ M : Array Value, M.size = 4096 ∧ ∀ W : World, (Instr.makeSlice 26 (.int .i64 4096) (.int .i64 4096)).run Tryd.prog W = .ok (.slice (some ⟨W.heap.size, 0, none⟩) 4096 4096) (W.alloc (.cells M 5)) := by
  obtain ⟨i0, hi, hz0, hz1, hz2⟩ := inf5
  refine ⟨madeCells (Value.int .u8 0).cells ((4096 : Int).toNat * i0.size), by rw [size_madeCells, hz1]; rfl, fun W => ?_⟩
  have h := run_makeSlice (P := Tryd.prog) W 26 5 i0 (.int .u8 0) Tryd.underlying26 hi hz0 .i64 .i64 4096 4096 (by omega) (by omega) (by rw [hz1]; decide) (by rw [hz2]; decide) (by decide)
  simpa using h

/-- a fresh bufio.Writer over the sink at b: its row at r, itself at r + 1 -/
def Fresh (b : Nat) (w w' : World) (e : Ending) : Prop :=
  ∃ M : Array Value, M.size = 4096 ∧ e = .returned (.pointer (some ⟨w.heap.size + 1, 0, none⟩)) ∧ w' = (w.alloc (.cells M 5)).alloc (.cells (bcells b w.heap.size 0) 68)

set_option maxRecDepth 20000 in
set_option maxHeartbeats 4000000 in
theorem writer29 (b : Nat) (w : World) : Calls Tryd.prog 29 #[.iface 29 (.pointer (some ⟨b, 0, none⟩)), .int .i64 4096] w fun e w' => Fresh b w w' e := by
  obtain ⟨M, hM, hmk⟩ := make26
  have ta : ∀ w, (Instr.typeAssert (.iface 29 (.pointer (some ⟨b, 0, none⟩))) 60 32 true).run Tryd.prog w = .ok (.tuple #[.pointer none, .bool false]) w := fun w => by kernel_rfl
  go_enter Tryd.func29, Tryd.ntmps29
  go_wp2
  go_ret
  exact ⟨M, hM, rfl, rfl⟩
theorem writer19 (b : Nat) (w : World) : Calls Tryd.prog 19 #[.iface 29 (.pointer (some ⟨b, 0, none⟩))] w fun e w' => Fresh b w w' e := by
  have N := Lib.hid (writer29 b w)
  go_enter Tryd.func19, Tryd.ntmps19
  go_wp2_with (first | (go_at_call 29; go_must (refine N.out.mono ?_); rintro e w1 ⟨M, hM, rfl, rfl⟩))
  go_ret
  exact ⟨M, hM, rfl, rfl⟩

/-- what writeLit writes -/
def lit (s : List UInt8) : List UInt8 := if 0 ≤ indexByte s 9 then 255 :: s ++ [255] else s
/-- what writeLit leaves -/
def LitOut (B b k r : Nat) (out : List UInt8) (v : Value) (w : World) (e : Ending) (w' : World) : Prop := e = .returned (.tuple #[]) ∧ ∃ v', BS B b k r out v' w' ∧ FrS (S3 b k r) v v' w w'
theorem lit_mk {B b k r : Nat} {out : List UInt8} {v v' : Value} {w w' : World} (h : BS B b k r out v' w') (hf : FrS (S3 b k r) v v' w w') : LitOut B b k r out v w (.returned (.tuple #[])) w' := ⟨rfl, v', h, hf⟩

/-- another block stays behind a write -/
theorem other_kept {B b k r p : Nat} {out : List UInt8} {v v' : Value} {pc : Array Value} {w w' : World} (h : BS B b k r out v w) (hp : w.heap[p]? = some (.cells pc 46 (0, 0))) (hf : FrS (S3 b k r) v v' w w') : w'.heap[p]? = some (.cells pc 46 (0, 0)) := by
  obtain ⟨fl, pend, rc, rfl, h⟩ := h
  have n1 : p ≠ b := ne_ty hp h.buf.1 (by decide)
  have n2 : p ≠ k := ne_ty hp h.wr (by decide)
  have n3 : p ≠ r := ne_ty hp h.row (by decide)
  have n4 : v.ownBlock ≠ some p := by
    rcases h.buf.2.2 with ⟨rfl, _⟩ | ⟨g, cap, cur, rfl, _, hgb, _⟩
    · simp [Value.ownBlock]
    · intro e
      simp [Value.ownBlock] at e
      exact ne_ty hgb hp (by decide) e
  exact (hf.block p (Lib.lt_of_heap hp) (by rintro (e | e | e) <;> contradiction) n4).trans hp
theorem FrS.grew {S : Nat → Prop} {v v' : Value} {w w' : World} (h : FrS S v v' w w') {B : Nat} (hB : B ≤ w.heap.size) : B ≤ w'.heap.size := Nat.le_trans hB h.size

set_option maxRecDepth 20000 in
set_option maxHeartbeats 4000000 in
theorem lit20a (B b k r p : Nat) (v : Value) (s : ByteArray) (pc : Array Value) (w : World) (h : BS B b k r [] v w) (hB : B ≤ w.heap.size) (hs : s.size ≤ 1048576) (hp : w.heap[p]? = some (.cells pc 46 (0, 0))) (hpc : pc[0]? = some (.iface 32 (.pointer (some ⟨k, 0, none⟩)))) (hn : 0 ≤ indexByte s.data.toList 9) :
    Calls Tryd.prog 20 #[.pointer (some ⟨p, 0, none⟩), .string s] w (LitOut B b k r (255 :: s.data.toList ++ [255]) v w) := by
  have ta : ∀ w, (Instr.typeAssert (.iface 32 (.pointer (some ⟨k, 0, none⟩))) 36 62 true).run Tryd.prog w = .ok (.tuple #[.pointer none, .bool false]) w := fun w => by kernel_rfl
  have mb : ∀ w, (method 308 32 (.pointer (some ⟨k, 0, none⟩)) "WriteByte").run Tryd.prog w = .ok (90, .pointer (some ⟨k, 0, none⟩)) w := fun w => by kernel_rfl
  have ms : ∀ w, (method 308 32 (.pointer (some ⟨k, 0, none⟩)) "WriteString").run Tryd.prog w = .ok (91, .pointer (some ⟨k, 0, none⟩)) w := fun w => by kernel_rfl
  have C30 := Lib.hid (contains30 9 s w (by omega) true (Lib.hid (decide_eq_true hn)))
  have W1 := Lib.hid (bw_byte B b k r [] v 255 w h hB (by simp))
  have hc : w.cell? ⟨p, 0, none⟩ = some (.iface 32 (.pointer (some ⟨k, 0, none⟩))) := by rw [Lib.cell_of_heap hp]; exact hpc
  have H := Lib.hid h
  have HP := Lib.hid hp
  have sz : s.data.toList.length = s.size := by simp
  clear h hp
  go_enter_defers Tryd.func20, Tryd.ntmps20
  go_wp2_with (first | (go_at_call 30; refine C30.out.mono ?_; rintro e w' ⟨rfl, hw'⟩; subst hw') | (go_at_call 90; refine W1.out.mono ?_; rintro e w1 ⟨rfl, v1, h1, hf1⟩; have hp1 := other_kept H.out HP.out hf1; have hc1 : w1.cell? ⟨p, 0, none⟩ = some (.iface 32 (.pointer (some ⟨k, 0, none⟩))) := (by rw [Lib.cell_of_heap hp1]; exact hpc); have W2 := Lib.hid (bw_str B b k r ([] ++ [255]) v1 s w1 h1 (hf1.grew hB) (by simp; omega)); have HF1 := Lib.hid hf1; clear h1 hf1 W1 hc hp1) | (go_at_call 91; refine W2.out.mono ?_; rintro e w2 ⟨rfl, v2, h2, hf2⟩; have H2 := Lib.hid h2; have HF2 := Lib.hid (HF1.out.trans hf2); clear h2 hf2 W2 HF1))
  have HB2 : B ≤ w2.heap.size := HF2.out.grew hB
  refine leaves_cons (f := 90) (args := #[.pointer (some ⟨k, 0, none⟩), .int .u8 255]) (by simp) (by kernel_rfl) ?_
  refine (bd_byte B b k r _ v2 255 .returning w2 H2.out HB2 (by simp; omega)).mono ?_
  rintro e u' w'' ⟨rfl, rfl, v3, h3, hf3⟩
  exact ⟨_, results_none rfl _ _ _, lit_mk (by simpa using h3) (HF2.out.trans hf3)⟩
set_option maxRecDepth 20000 in
set_option maxHeartbeats 4000000 in
theorem lit20b (B b k r p : Nat) (v : Value) (s : ByteArray) (pc : Array Value) (w : World) (h : BS B b k r [] v w) (hB : B ≤ w.heap.size) (hs : s.size ≤ 1048576) (hp : w.heap[p]? = some (.cells pc 46 (0, 0))) (hpc : pc[0]? = some (.iface 32 (.pointer (some ⟨k, 0, none⟩)))) (hn : ¬ 0 ≤ indexByte s.data.toList 9) :
    Calls Tryd.prog 20 #[.pointer (some ⟨p, 0, none⟩), .string s] w (LitOut B b k r s.data.toList v w) := by
  have ta : ∀ w, (Instr.typeAssert (.iface 32 (.pointer (some ⟨k, 0, none⟩))) 36 62 true).run Tryd.prog w = .ok (.tuple #[.pointer none, .bool false]) w := fun w => by kernel_rfl
  have mb : ∀ w, (method 308 32 (.pointer (some ⟨k, 0, none⟩)) "WriteByte").run Tryd.prog w = .ok (90, .pointer (some ⟨k, 0, none⟩)) w := fun w => by kernel_rfl
  have ms : ∀ w, (method 308 32 (.pointer (some ⟨k, 0, none⟩)) "WriteString").run Tryd.prog w = .ok (91, .pointer (some ⟨k, 0, none⟩)) w := fun w => by kernel_rfl
  have C30 := Lib.hid (contains30 9 s w (by omega) false (Lib.hid (decide_eq_false hn)))
  have W2 := Lib.hid (bw_str B b k r [] v s w h hB (by simp; omega))
  have hc : w.cell? ⟨p, 0, none⟩ = some (.iface 32 (.pointer (some ⟨k, 0, none⟩))) := by rw [Lib.cell_of_heap hp]; exact hpc
  have H := Lib.hid h
  have HP := Lib.hid hp
  have sz : s.data.toList.length = s.size := by simp
  clear h hp
  go_enter_defers Tryd.func20, Tryd.ntmps20
  go_wp2_with (first | (go_at_call 30; refine C30.out.mono ?_; rintro e w' ⟨rfl, hw'⟩; subst hw') | (go_at_call 91; refine W2.out.mono ?_; rintro e w2 ⟨rfl, v2, h2, hf2⟩; have H2 := Lib.hid h2; have HF2 := Lib.hid hf2; clear h2 hf2 W2))
  exact ⟨_, results_none rfl _ _ _, lit_mk (by simpa using H2.out) HF2.out⟩

theorem lit20 (B b k r p : Nat) (v : Value) (s : ByteArray) (pc : Array Value) (w : World) (h : BS B b k r [] v w) (hB : B ≤ w.heap.size) (hs : s.size ≤ 1048576) (hp : w.heap[p]? = some (.cells pc 46 (0, 0))) (hpc : pc[0]? = some (.iface 32 (.pointer (some ⟨k, 0, none⟩)))) :
    Calls Tryd.prog 20 #[.pointer (some ⟨p, 0, none⟩), .string s] w (LitOut B b k r (lit s.data.toList) v w) := by
  unfold lit
  by_cases hn : 0 ≤ indexByte s.data.toList 9
  · rw [if_pos hn]; exact lit20a B b k r p v s pc w h hB hs hp hpc hn
  · rw [if_neg hn]; exact lit20b B b k r p v s pc w h hB hs hp hpc hn
theorem FrS.below {S : Nat → Prop} {v v' : Value} {w w' : World} (h : FrS S v v' w w') {B : Nat} (hS : ∀ i, S i → B ≤ i) (hv : ∀ g, v.ownBlock = some g → B ≤ g) (hB : B ≤ w.heap.size) : Below B w w' :=
  ⟨h.os, h.tape, h.output, h.size, fun i hi => h.block i (Nat.lt_of_lt_of_le hi hB) (fun e => by have := hS i e; omega) (fun e => by have := hv i e; omega)⟩
theorem BS.below {B b k r : Nat} {out : List UInt8} {v v' : Value} {w w' : World} (h : BS B b k r out v w) (hf : FrS (S3 b k r) v v' w w') (hB : B ≤ w.heap.size) : Below B w w' := by
  obtain ⟨fl, pend, rc, rfl, h⟩ := h
  exact hf.below (by rintro i (rfl | rfl | rfl); exact h.lb; exact h.lk; exact h.lr) h.lo hB
/-- a fresh writer over a fresh sink, and a printer's block behind them -/
theorem BS.made (w : World) (M : Array Value) (hM : M.size = 4096) (o : Obj) :
    BS w.heap.size w.heap.size (w.heap.size + 2) (w.heap.size + 1) [] (.slice none 0 0) ((((w.alloc (.cells #[.slice none 0 0] 31)).alloc (.cells M 5)).alloc (.cells (bcells w.heap.size (w.heap.size + 1) 0) 68)).alloc o) := by
  have e1 : (w.alloc (.cells #[.slice none 0 0] 31)).heap.size = w.heap.size + 1 := by simp
  have e2 : ((w.alloc (.cells #[.slice none 0 0] 31)).alloc (.cells M 5)).heap.size = w.heap.size + 2 := by simp
  have e3 : (((w.alloc (.cells #[.slice none 0 0] 31)).alloc (.cells M 5)).alloc (.cells (bcells w.heap.size (w.heap.size + 1) 0) 68)).heap.size = w.heap.size + 3 := by simp
  refine ⟨[], [], M, rfl, ⟨⟨?_, World.ownsRow_nil _ _ _ _⟩, ?_, ?_, hM, rfl, by decide, by omega, by omega, by omega, by simp [Value.ownBlock], by simp [Value.ownBlock], Nat.le_refl _, by omega, by omega, fun g hg => by simp [Value.ownBlock] at hg⟩⟩
  · rw [Below.heap_alloc _ _ _ (by omega), Below.heap_alloc _ _ _ (by omega), Below.heap_alloc _ _ _ (by omega)]; exact heap_alloc_new _ _
  · rw [Below.heap_alloc _ _ _ (by omega), ← e2]; exact heap_alloc_new _ _
  · rw [Below.heap_alloc _ _ _ (by omega), Below.heap_alloc _ _ _ (by omega), ← e1]; exact heap_alloc_new _ _

/-- what the law's door hands back -/
def DoorOut (out : List UInt8) (w : World) (e : Ending) (w' : World) : Prop := ∃ v, e = .returned v ∧ w'.ownsRow 0 5 1 v out.length (Lib.byteCells out) ∧ Below w.heap.size w w'
theorem door_mk {out : List UInt8} {w w' : World} {v : Value} (h1 : w'.ownsRow 0 5 1 v out.length (Lib.byteCells out)) (h2 : Below w.heap.size w w') : DoorOut out w (.returned v) w' := ⟨v, rfl, h1, h2⟩
theorem lit_len (s : List UInt8) : (lit s).length ≤ s.length + 2 := by unfold lit; split <;> simp

set_option maxRecDepth 20000 in
set_option maxHeartbeats 4000000 in
theorem door14 (s : ByteArray) (w : World) (hs : s.size ≤ 1048576) : Calls Tryd.prog 14 #[.string s] w (DoorOut (lit s.data.toList) w) := by
  go_enter Tryd.func14, Tryd.ntmps14
  go_wp2_with (first | (go_at_call 19; refine (writer19 _ _).mono ?_; rintro e w1 ⟨M, hM, rfl, rfl⟩))
  obtain ⟨W, hW⟩ : ∃ W : World, W = (((w.alloc (.cells #[.slice none 0 0] 31)).alloc (.cells M 5)).alloc (.cells (bcells w.heap.size (w.heap.size + 1) 0) 68)).alloc (.cells #[.iface 32 (.pointer (some ⟨w.heap.size + 1 + 1, 0, none⟩)), .pointer none, .pointer none, .int .i64 0, .bool false, .int .u64 0, .bool false, .bool false, .bool false, .bool false, .bool false, .bool false, .bool false, .int .u8 0, .bool false, .bool false, .bool false, .slice none 0 0, .bool false, .int .u64 0, .int .u64 0, .int .u64 0, .slice none 0 0, .bool false, .slice none 0 0, .pointer none] 46) := ⟨_, rfl⟩
  have hmade := BS.made w M hM (.cells #[.iface 32 (.pointer (some ⟨w.heap.size + 1 + 1, 0, none⟩)), .pointer none, .pointer none, .int .i64 0, .bool false, .int .u64 0, .bool false, .bool false, .bool false, .bool false, .bool false, .bool false, .bool false, .int .u8 0, .bool false, .bool false, .bool false, .slice none 0 0, .bool false, .int .u64 0, .int .u64 0, .int .u64 0, .slice none 0 0, .bool false, .slice none 0 0, .pointer none] 46)
  rw [← hW] at hmade ⊢
  have e3 : (((w.alloc (.cells #[.slice none 0 0] 31)).alloc (.cells M 5)).alloc (.cells (bcells w.heap.size (w.heap.size + 1) 0) 68)).heap.size = w.heap.size + 1 + 1 + 1 := by simp
  have hWp : W.heap[w.heap.size + 1 + 1 + 1]? = some (.cells #[.iface 32 (.pointer (some ⟨w.heap.size + 1 + 1, 0, none⟩)), .pointer none, .pointer none, .int .i64 0, .bool false, .int .u64 0, .bool false, .bool false, .bool false, .bool false, .bool false, .bool false, .bool false, .int .u8 0, .bool false, .bool false, .bool false, .slice none 0 0, .bool false, .int .u64 0, .int .u64 0, .int .u64 0, .slice none 0 0, .bool false, .slice none 0 0, .pointer none] 46 (0, 0)) := by rw [hW, ← e3]; exact heap_alloc_new _ _
  have hBW : w.heap.size ≤ W.heap.size := by rw [hW]; simp; omega
  have hb0 : Below w.heap.size w W := by rw [hW]; exact ((((Below.refl _ w).alloc (Nat.le_refl _) _).alloc (by simp) _).alloc (by simp; omega) _).alloc (by simp; omega) _
  refine (lit20 w.heap.size w.heap.size (w.heap.size + 2) (w.heap.size + 1) _ (.slice none 0 0) s _ W hmade hBW hs hWp rfl).mono ?_
  rintro e w2 ⟨rfl, v2, h2, hf2⟩
  have hb2 := Lib.hid (hb0.trans (hmade.below hf2 hBW))
  have hB2 := hf2.grew hBW
  obtain ⟨fl, pend, rc, hout, hbw⟩ := h2
  have hll := lit_len s.data.toList
  have sz : s.data.toList.length = s.size := by simp
  have hl2 := congrArg List.length hout
  rw [List.length_append] at hl2
  have FL := Lib.hid (bw_flush _ _ _ _ fl pend v2 rc w2 hbw hB2 (by omega))
  have HBW2 := Lib.hid hbw
  have HO := Lib.hid hout
  have HB2 := Lib.hid hB2
  clear hbw hout hll sz hl2 hf2 hb0 hBW hWp hmade hB2 hW e3
  go_wp2_with (go_at_call 21; refine FL.out.mono ?_; rintro e w3 ⟨rfl, v3, rc3, h3, hf3⟩; have hc : w3.cell? ⟨w.heap.size, 0, none⟩ = some v3 := (by rw [Lib.cell_of_heap h3.buf.1]; rfl); have H3 := Lib.hid h3; have HF3 := Lib.hid hf3; obtain ⟨a3, n3, c3, rfl⟩ : ∃ a n c, v3 = .slice a n c := (by rcases h3.buf.2.2 with ⟨rfl, _⟩ | ⟨g, cap, cur, rfl, _⟩ <;> exact ⟨_, _, _, rfl⟩); clear h3 hf3 FL)
  go_ret
  have ow := H3.out.buf.2
  rw [← HO.out] at ow
  exact door_mk ow (hb2.out.trans (BS.below ⟨fl, pend, rc, rfl, HBW2.out⟩ HF3.out HB2.out))
end Go.Proofs.YtopaaaacbegmnaaDoor
