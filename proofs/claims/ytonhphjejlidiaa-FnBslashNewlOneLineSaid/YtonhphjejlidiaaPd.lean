/-
  The walk of the printer's spacePad. Conditions: those in each theorem.
-/
import Derived.Test.YtonhphjejlidiaaTw
import Derived.Laws.BitsAllLaws
namespace Go.Proofs.Ytonhphjejlidiaa
set_option linter.unusedVariables false
open Go.Shelf Go.RowKit Go.Lib

set_option maxRecDepth 20000 in
theorem col65 (o lc : Nat) (w : World) (h : lc ≤ 4294967295) : Calls Try.prog 65 #[.agg #[.int .u32 o, .int .u32 lc]] w fun e w' => e = .returned (.int .u64 (lc % 16384 : Nat)) ∧ w' = w.alloc (.cells #[.int .u32 o, .int .u32 lc] 43) := by
  have hi : (lc : Int) ≤ 4294967295 := by omega
  have hb : bits .and .u32 (lc : Int) 16383 = ((lc % 16384 : Nat) : Int) := by
    have h1 := u32_and_nat lc 16383 (by omega) (by omega)
    have h2 : lc &&& 16383 = lc % 16384 := Nat.and_two_pow_sub_one_eq_mod lc 14
    rw [h2] at h1
    exact h1
  have hm : ((lc % 16384 : Nat) : Int) ≤ 16383 := by omega
  obtain ⟨c, hc⟩ : ∃ c, c = lc % 16384 := ⟨_, rfl⟩
  rw [← hc] at hb hm ⊢
  clear hc
  go_enter Try.func65, Try.ntmps65
  go_wp2
  go_ret
  exact ⟨rfl, rfl⟩

set_option maxRecDepth 20000 in
set_option maxHeartbeats 4000000 in
theorem pad54z (B b k r p tw : Nat) (kp : Bool) (out : List UInt8) (f : PF) (v : Value) (o lc : Nat) (w : World) (h : PS B b k r p tw kp out f v w) (h1 : f.ls = true) (h2 : f.ind = 0) :
    Calls Try.prog 54 #[.pointer (some ⟨p, 0, none⟩), .agg #[.int .u32 o, .int .u32 lc]] w (PDone B b k r p tw kp out f v w) := by
  have hg := fun (x : Obj) => h.grew (w' := w.alloc x) (fun i hi => Below.heap_alloc _ _ i hi)
  have c4 : ∀ x, (w.alloc x).cell? ⟨p, 4, none⟩ = some (.bool true) := fun x => by rw [(hg x).c]; show some (Value.bool f.ls) = _; rw [h1]
  have c5 : ∀ x, (w.alloc x).cell? ⟨p, 5, none⟩ = some (.int .u64 0) := fun x => by rw [(hg x).c]; show some (Value.int .u64 (f.ind : Int)) = _; rw [h2]; rfl
  have HG := Lib.hid hg
  clear hg h
  go_enter Try.func54, Try.ntmps54
  go_wp2
  go_end0
  exact ⟨rfl, v, HG.out _, (FrS.refl _ _ _).alloc _⟩

/-- the fields behind spacePad's first part -/
def pad1 (kp : Bool) (f : PF) : PF := if f.ws = 1 then { stepF kp f 32 with ws := 2 } else f
def padK (f : PF) : Nat := if f.ws = 1 then 1 else 0
def padM (kp : Bool) (f : PF) (c : Nat) : Nat := if kp then c - (pad1 kp f).col else 0

theorem step32' (f : PF) : stepF true f 32 = { f with col := f.col + 1 } := by unfold stepF addF; simp only [if_true, addB_space]

/-- the box of the position stays -/
theorem PS.box {B b k r p tw : Nat} {kp : Bool} {out : List UInt8} {f : PF} {v : Value} {w : World} (h : PS B b k r p tw kp out f v w) (x : Obj) {v' : Value} {wr : World} (hf : FrS (S4 b k r p) v v' (w.alloc x) wr) : wr.heap[w.heap.size]? = some x := by
  obtain ⟨m1, m2, m3, m4, m5⟩ := PS.high h
  rw [hf.block w.heap.size (by simp) (by rintro ((e | e | e) | e) <;> omega) (fun e => by have := m5 _ e; omega)]
  exact heap_alloc_new w x

set_option maxRecDepth 20000 in
set_option maxHeartbeats 16000000 in
theorem pad54F1 (B b k r p tw : Nat) (out : List UInt8) (f : PF) (v : Value) (o lc : Nat) (w : World) (h : PS B b k r p tw false out f v w) (h1 : f.ls = false) (h2 : f.col = 0) (hws : f.ws = 1) (hl : out.length + 4096 ≤ 1073741824) (hlc : lc ≤ 4294967295) :
    Calls Try.prog 54 #[.pointer (some ⟨p, 0, none⟩), .agg #[.int .u32 o, .int .u32 lc]] w (PDone B b k r p tw false (out ++ [32]) { stepF false f 32 with ws := 2 } v w) := by
  have hg := fun (x : Obj) => h.grew (w' := w.alloc x) (fun i hi => Below.heap_alloc _ _ i hi)
  have BX := Lib.hid fun (x : Obj) (v' : Value) (wr : World) (hf : FrS (S4 b k r p) v v' (w.alloc x) wr) => h.box x hf
  have c13 : ∀ x, (w.alloc x).cell? ⟨p, 13, none⟩ = some (.int .u8 f.ws) := fun x => by rw [(hg x).c]; rfl
  have c0 : ∀ x, (w.alloc x).cell? ⟨p, 0, none⟩ = some (.iface 79 (.pointer (some ⟨k, 0, none⟩))) := fun x => by rw [(hg x).c]; rfl
  have mm := m_byteF k
  have mixed : Try.prog.follows .mixedOrders = true := by kernel_rfl
  rw [hws] at c13
  have c4 : ∀ x, (w.alloc x).cell? ⟨p, 4, none⟩ = some (.bool false) := fun x => by rw [(hg x).c]; show some (Value.bool f.ls) = _; rw [h1]
  have WB := Lib.hid fun x => byte129 B b k r p tw out f v 32 _ (hg x) hl
  clear hg h
  go_enter Try.func54, Try.ntmps54
  go_wp2_with (go_at_call 129; refine (WB.out _).mono ?_; rintro e w1 ⟨rfl, v', t1, t2⟩; have d13 : w1.cell? ⟨p, 13, none⟩ = some (.int .u8 f.ws) := (by rw [t1.c]; rfl); have f13 := t1.f 13; have T1 := Lib.hid t1; have T2 := Lib.hid t2; clear t1 t2 WB)
  have A0 : Hid (PS B b k r p tw false (out ++ [32]) { stepF false f 32 with ws := 2 } v' (w1.setCell ⟨p, 13, none⟩ (.int .u8 2))) := Lib.hid (T1.out.set 13 _ { stepF false f 32 with ws := 2 } rfl)
  have B0 := Lib.hid (fr4_set T2.out 13 (.int .u8 2))
  clear T1 T2 d13 f13
  generalize w1.setCell ⟨p, 13, none⟩ (.int .u8 2) = W1 at *
  go_loopg [] (0) (fun g wr => Hid (wr = W1))
  case atStart => exact Lib.hid rfl
  case round =>
    have hw := hrel.out
    subst hw
    have c3 : wr.cell? ⟨p, 3, none⟩ = some (.int .i64 0) := by rw [A0.out.c]; show some (Value.int .i64 (f.col : Int)) = _; rw [h2]; rfl
    clear c4 c13 c0
    go_wp2
    go_big_region
    go_wp2
    go_end0
    exact ⟨rfl, v', A0.out.grew (fun _ _ => rfl), (((FrS.refl (S4 b k r p) v w).alloc _).trans B0.out).drew⟩

set_option maxRecDepth 20000 in
set_option maxHeartbeats 16000000 in
theorem pad54F0 (B b k r p tw : Nat) (out : List UInt8) (f : PF) (v : Value) (o lc : Nat) (w : World) (h : PS B b k r p tw false out f v w) (h1 : f.ls = false) (h2 : f.col = 0) (hws : ¬ f.ws = 1) (hw2 : f.ws ≤ 2) (hl : out.length + 4096 ≤ 1073741824) (hlc : lc ≤ 4294967295) :
    Calls Try.prog 54 #[.pointer (some ⟨p, 0, none⟩), .agg #[.int .u32 o, .int .u32 lc]] w (PDone B b k r p tw false (out) f v w) := by
  have hg := fun (x : Obj) => h.grew (w' := w.alloc x) (fun i hi => Below.heap_alloc _ _ i hi)
  have BX := Lib.hid fun (x : Obj) (v' : Value) (wr : World) (hf : FrS (S4 b k r p) v v' (w.alloc x) wr) => h.box x hf
  have c13 : ∀ x, (w.alloc x).cell? ⟨p, 13, none⟩ = some (.int .u8 f.ws) := fun x => by rw [(hg x).c]; rfl
  have c0 : ∀ x, (w.alloc x).cell? ⟨p, 0, none⟩ = some (.iface 79 (.pointer (some ⟨k, 0, none⟩))) := fun x => by rw [(hg x).c]; rfl
  have mm := m_byteF k
  have mixed : Try.prog.follows .mixedOrders = true := by kernel_rfl
  have hwi : ¬ (f.ws : Int) = 1 := by omega
  have hwi2 : (f.ws : Int) ≤ 2 := by omega
  have c4 : ∀ x, (w.alloc x).cell? ⟨p, 4, none⟩ = some (.bool false) := fun x => by rw [(hg x).c]; show some (Value.bool f.ls) = _; rw [h1]
  have HG := Lib.hid hg
  clear hg h
  go_enter Try.func54, Try.ntmps54
  go_wp2
  have A0 := Lib.hid (HG.out (.cells #[.int .u32 o, .int .u32 lc] 43))
  have B0 := Lib.hid (FrS.refl (S4 b k r p) v (w.alloc (.cells #[.int .u32 o, .int .u32 lc] 43)))
  clear HG
  obtain ⟨W1, hW1⟩ : ∃ W1, W1 = w.alloc (.cells #[.int .u32 o, .int .u32 lc] 43) := ⟨_, rfl⟩
  rw [← hW1]
  have A1 := A0.out
  have B1 := B0.out
  rw [← hW1] at A1
  have B2 : FrS (S4 b k r p) v v (w.alloc (.cells #[.int .u32 o, .int .u32 lc] 43)) W1 := by rw [hW1]; exact B1
  clear A0 B0 B1 hW1
  have A0 := Lib.hid A1
  have B0 := Lib.hid B2
  clear A1 B2
  go_loopg [] (0) (fun g wr => Hid (wr = W1))
  case atStart => exact Lib.hid rfl
  case round =>
    have hw := hrel.out
    subst hw
    have c3 : wr.cell? ⟨p, 3, none⟩ = some (.int .i64 0) := by rw [A0.out.c]; show some (Value.int .i64 (f.col : Int)) = _; rw [h2]; rfl
    clear c4 c13 c0
    go_wp2
    go_big_region
    go_wp2
    go_end0
    exact ⟨rfl, v, A0.out.grew (fun _ _ => rfl), (((FrS.refl (S4 b k r p) v w).alloc _).trans B0.out).drew⟩


set_option maxRecDepth 20000 in
theorem pos25 (o lc : Nat) (w : World) : Calls Try.prog 25 #[.int .u32 o, .int .u32 lc] w fun e w' => e = .returned (.agg #[.int .u32 o, .int .u32 lc]) ∧ w' = w.alloc (.cells #[.int .u32 o, .int .u32 lc] 43) := by
  have hN := heap_alloc_new w (.cells #[.int .u32 o, .int .u32 lc] 43)
  have k0 : (w.alloc (.cells #[.int .u32 o, .int .u32 lc] 43)).cell? ⟨w.heap.size, 0, none⟩ = some (.int .u32 o) := by rw [Lib.cell_of_heap hN]; rfl
  have k1 : (w.alloc (.cells #[.int .u32 o, .int .u32 lc] 43)).cell? ⟨w.heap.size, 1, none⟩ = some (.int .u32 lc) := by rw [Lib.cell_of_heap hN]; rfl
  go_enter Try.func25, Try.ntmps25
  go_wp2
  refine bodyPost_ret (v := .agg #[.int .u32 o, .int .u32 lc]) ?_ rfl ⟨rfl, rfl⟩
  simp [results, Try.results25, go_sem, k0, k1]

set_option maxRecDepth 20000 in
theorem call24 (B b k r p tw : Nat) (kp : Bool) (out out2 : List UInt8) (f f2 : PF) (v : Value) (o lc : Nat) (w : World) (h : PS B b k r p tw kp out f v w) (h54 : ∀ W, PS B b k r p tw kp out f v W → Calls Try.prog 54 #[.pointer (some ⟨p, 0, none⟩), .agg #[.int .u32 o, .int .u32 lc]] W (PDone B b k r p tw kp out2 f2 v W)) :
    Calls Try.prog 24 #[.pointer (some ⟨p, 0, none⟩), .agg #[.int .u32 o, .int .u32 lc]] w (PDone B b k r p tw kp out2 f2 v w) := by
  have hg := fun (x : Obj) => h.grew (w' := w.alloc x) (fun i hi => Below.heap_alloc _ _ i hi)
  have CC := Lib.hid fun x => h54 _ (hg x)
  clear hg h h54
  go_enter Try.func24, Try.ntmps24
  go_wp2_with (go_at_call 54; refine (CC.out _).mono ?_; rintro e w1 ⟨rfl, v', t1, t2⟩; have T1 := Lib.hid t1; have T2 := Lib.hid t2; clear t1 t2 CC)
  go_end0
  exact ⟨rfl, v', T1.out, ((FrS.refl (S4 b k r p) v w).alloc _).trans T2.out⟩
end Go.Proofs.Ytonhphjejlidiaa
