/-
  The walk of the printer's spacePad with the column counter on. Conditions: those in each theorem.
-/
import Derived.Test.YtonhphjejlidiaaPd
import Derived.Shelf.SlSortCmp.QuietGrown
namespace Go.Proofs.Ytonhphjejlidiaa
set_option linter.unusedVariables false
open Go.Shelf Go.RowKit Go.Lib

theorem col65g (o lc c : Nat) (w : World) (h : lc ≤ 4294967295) (hc : c = lc % 16384) (n : Nat) (os : Array Obj) : Calls Try.prog 65 #[.agg #[.int .u32 o, .int .u32 lc]] (Sort.grow (w.drewN n) os) fun e w' => e = .returned (.int .u64 c) ∧ ∃ k os', w' = Sort.grow ((Sort.grow (w.drewN n) os).drewN k) os' :=
  (col65 o lc _ h).mono fun e w' ⟨he, hw⟩ => ⟨by rw [he, hc], 0, #[.cells #[.int .u32 o, .int .u32 lc] 43], by rw [hw, Sort.alloc_eq_grow]; rfl⟩

set_option maxRecDepth 20000 in
set_option maxHeartbeats 16000000 in
theorem pad54T1 (B b k r p tw : Nat) (out o1 : List UInt8) (f f1 : PF) (v : Value) (o lc c : Nat) (w : World) (h : PS B b k r p tw true out f v w) (hz : ¬ (f.ls = true ∧ f.ind = 0)) (h2 : 1 ≤ f.col) (hc : f.col + 16400 ≤ 1073741824) (hws : f.ws = 1) (hl : out.length + 1 + 16384 + 4096 ≤ 1073741824) (hlc : lc ≤ 4294967295) (hcd : c = lc % 16384) (hf1 : f1 = { stepF true f 32 with ws := 2 }) (ho1 : o1 = out ++ [32]) :
    Calls Try.prog 54 #[.pointer (some ⟨p, 0, none⟩), .agg #[.int .u32 o, .int .u32 lc]] w (PDone B b k r p tw true (o1 ++ List.replicate (c - f1.col) 32) (stepL true f1 (List.replicate (c - f1.col) 32)) v w) := by
  have hg := fun (x : Obj) => h.grew (w' := w.alloc x) (fun i hi => Below.heap_alloc _ _ i hi)
  have BX := Lib.hid fun (x : Obj) (v' : Value) (wr : World) (hf : FrS (S4 b k r p) v v' (w.alloc x) wr) => h.box x hf
  have c13 : ∀ x, (w.alloc x).cell? ⟨p, 13, none⟩ = some (.int .u8 f.ws) := fun x => by rw [(hg x).c]; rfl
  have c0 : ∀ x, (w.alloc x).cell? ⟨p, 0, none⟩ = some (.iface 134 (.pointer (some ⟨p, 2, none⟩))) := fun x => by rw [(hg x).c]; rfl
  have mm := m_byteT p
  have mixed : Try.prog.follows .mixedOrders = true := by kernel_rfl
  rw [hws] at c13
  have c4 : ∀ x, (w.alloc x).cell? ⟨p, 4, none⟩ = some (.bool f.ls) := fun x => by rw [(hg x).c]; rfl
  have c5 : ∀ x, (w.alloc x).cell? ⟨p, 5, none⟩ = some (.int .u64 f.ind) := fun x => by rw [(hg x).c]; rfl
  have hzz : f.ls = false ∨ (f.ls = true ∧ ¬ (f.ind : Int) = 0 ∧ ((f.ind : Int) == 0) = false) := by
    cases hx : f.ls
    · exact .inl rfl
    · have hne : ¬ (f.ind : Int) = 0 := fun e => hz ⟨hx, by omega⟩
      exact .inr ⟨rfl, hne, by simpa using hne⟩
  clear hz
  have hcol : 1 ≤ f1.col ∧ f1.col ≤ 1073741824 - 16384 := by
    rw [hf1]; rw [step32']; simp only []; omega
  have hlo : o1.length + 16384 + 4096 ≤ 1073741824 := by rw [ho1]; simp; omega
  have HF1 := Lib.hid hf1
  have HO1 := Lib.hid ho1
  have hcc : c ≤ 16383 := by omega
  have CL := Lib.hid fun W => col65g o lc c W hlc hcd
  have hci : (c : Int) ≤ 16383 := by omega
  have hwc : IntKind.i64.wrap (c : Int) = c := by rw [IntKind.wrap_i64]; omega
  have WB := Lib.hid fun x => byte142 B b k r p tw out f v 32 _ (hg x) (by omega) (by omega)
  clear hg h hf1 ho1 hcd hlc
  rcases hzz with hz1 | ⟨hz1, hz2, hz3⟩
  all_goals (
  rw [hz1] at c4
  go_enter Try.func54, Try.ntmps54
  go_wp2_with (go_at_call 142; refine (WB.out _).mono ?_; rintro e w1 ⟨rfl, v', t1, t2⟩; have d13 : w1.cell? ⟨p, 13, none⟩ = some (.int .u8 f.ws) := (by rw [t1.c]; rfl); have f13 := t1.f 13; have T1 := Lib.hid t1; have T2 := Lib.hid t2; clear t1 t2 WB)
  have A0' : PS B b k r p tw true (out ++ [32]) { stepF true f 32 with ws := 2 } v' (w1.setCell ⟨p, 13, none⟩ (.int .u8 2)) := T1.out.set 13 _ { stepF true f 32 with ws := 2 } rfl
  rw [← HF1.out, ← HO1.out] at A0'
  have A0 := Lib.hid A0'
  have B0 := Lib.hid (fr4_set T2.out 13 (.int .u8 2))
  clear T1 T2 d13 f13 A0'
  generalize w1.setCell ⟨p, 13, none⟩ (.int .u8 2) = W1 at *
  have BN := Lib.hid (BX.out _ _ _ B0.out)
  clear c4 c5 c13 c0
  have S0 : Hid (AtS B b k r p tw true o1 f1 v' v' W1 W1 0) := Lib.hid ⟨by rw [List.replicate_zero, List.append_nil, stepL_nil]; exact A0.out, FrS.refl _ _ _⟩
  go_loopg [] (c - f1.col) (fun g wr => ∃ (j : Nat) (v2 : Value), j ≤ c - f1.col ∧ c - f1.col - j ≤ g ∧ Hid (AtS B b k r p tw true o1 f1 v' v2 W1 wr j))
  case atStart => exact ⟨0, v', by omega, by omega, S0⟩
  case round =>
    clear S0
    obtain ⟨j, v2, hj, hg2, AT⟩ := hrel
    have hcolj : (stepL true f1 (List.replicate j 32)).col = f1.col + j := by rw [stepL_spaces]; rfl
    obtain ⟨q, hq⟩ : ∃ q, q = f1.col + j := ⟨_, rfl⟩
    have hN := BX.out _ _ _ (B0.out.trans AT.out.fr)
    have hNl := Lib.lt_of_heap hN
    have hpl := AT.out.ps.lt
    have n0 : ∀ n os, (Sort.grow (wr.drewN n) os).cell? ⟨w.heap.size, 0, none⟩ = some (.int .u32 o) := fun n os => (Sort.cell?_grow (wr.drewN n) os _ hNl).trans (by show wr.cell? _ = _; rw [Lib.cell_of_heap hN]; rfl)
    have n1 : ∀ n os, (Sort.grow (wr.drewN n) os).cell? ⟨w.heap.size, 1, none⟩ = some (.int .u32 lc) := fun n os => (Sort.cell?_grow (wr.drewN n) os _ hNl).trans (by show wr.cell? _ = _; rw [Lib.cell_of_heap hN]; rfl)
    have c3 : ∀ n os, (Sort.grow (wr.drewN n) os).cell? ⟨p, 3, none⟩ = some (.int .i64 q) := fun n os => (Sort.cell?_grow (wr.drewN n) os _ hpl).trans (by show wr.cell? _ = _; rw [AT.out.ps.c, hq, ← hcolj]; rfl)
    have hq1 : (0 : Int) < (q : Int) := by omega
    have hq2 : (q : Int) ≤ 1073741824 := by omega
    have SP : Hid (∀ W : World, (∀ i, i < wr.heap.size → W.heap[i]? = wr.heap[i]?) → PS B b k r p tw true (o1 ++ List.replicate j 32) (stepL true f1 (List.replicate j 32)) v2 W) := Lib.hid fun W hW => AT.out.ps.grew hW
    have HQ := Lib.hid hq
    have HCJ := Lib.hid hcolj
    clear hN hq hcolj
    have hqn : 0 < q := by omega
    have dq : decide (0 < q) = true := decide_eq_true hqn
    by_cases hqc : q < c
    · have dqc : decide ((q : Int) < IntKind.i64.wrap (c : Int)) = true := by rw [hwc]; exact decide_eq_true (by omega)
      go_wp2
      go_quiet_grown (first | (go_at_call 65; refine Calls.grown_of (CL.out wr _ _)))
      have H3 := Lib.hid (SP.out (Sort.grow (wr.drewN nq) osq) (fun i hi => Sort.heap_grow_old (wr.drewN nq) osq hi))
      have F3 : Hid (FrS (S4 b k r p) v2 v2 wr (Sort.grow (wr.drewN nq) osq)) := Lib.hid ⟨rfl, rfl, rfl, by rw [Sort.size_grow]; exact Nat.le_add_right _ _, fun i hi _ _ => Sort.heap_grow_old (wr.drewN nq) osq hi, .inl rfl⟩
      generalize Sort.grow (wr.drewN nq) osq = w3 at H3 F3 ⊢
      have e0 : w3.cell? ⟨p, 0, none⟩ = some (.iface 134 (.pointer (some ⟨p, 2, none⟩))) := by rw [H3.out.c]; rfl
      have WB := Lib.hid (byte142 B b k r p tw _ _ v2 32 w3 H3.out (by simp; omega) (by rw [HCJ.out]; omega))
      clear n0 n1 c3 CL SP
      go_wp2_with (go_at_call 142; refine WB.out.mono ?_; rintro e w4 ⟨rfl, v4, t1, t2⟩; have A4 := Lib.hid (AT.out.step t1 (F3.out.trans t2)); clear t1 t2 WB)
      go_roundg (c - f1.col - (j + 1))
      case measure => have := HQ.out; omega
      case rel => exact ⟨j + 1, v4, by have := HQ.out; omega, Nat.le_refl _, A4⟩
    · have dqc : decide ((q : Int) < IntKind.i64.wrap (c : Int)) = false := by rw [hwc]; exact decide_eq_false (by omega)
      go_wp2
      go_quiet_grown (first | (go_at_call 65; refine Calls.grown_of (CL.out wr _ _)))
      have H3 := Lib.hid (SP.out (Sort.grow (wr.drewN nq) osq) (fun i hi => Sort.heap_grow_old (wr.drewN nq) osq hi))
      have F3 : Hid (FrS (S4 b k r p) v2 v2 wr (Sort.grow (wr.drewN nq) osq)) := Lib.hid ⟨rfl, rfl, rfl, by rw [Sort.size_grow]; exact Nat.le_add_right _ _, fun i hi _ _ => Sort.heap_grow_old (wr.drewN nq) osq hi, .inl rfl⟩
      generalize Sort.grow (wr.drewN nq) osq = w3 at H3 F3 ⊢
      have hjm : j = c - f1.col := by have := HQ.out; omega
      go_wp2
      go_end0
      have h5 := H3.out
      rw [hjm] at h5
      exact ⟨rfl, v2, h5, (((FrS.refl (S4 b k r p) v w).alloc _).trans B0.out).trans (AT.out.fr.trans F3.out)⟩)

set_option maxRecDepth 20000 in
set_option maxHeartbeats 16000000 in
theorem pad54T0 (B b k r p tw : Nat) (out o1 : List UInt8) (f f1 : PF) (v : Value) (o lc c : Nat) (w : World) (h : PS B b k r p tw true out f v w) (hz : ¬ (f.ls = true ∧ f.ind = 0)) (h2 : 1 ≤ f.col) (hc : f.col + 16400 ≤ 1073741824) (hws : ¬ f.ws = 1) (hw2 : f.ws ≤ 2) (hl : out.length + 1 + 16384 + 4096 ≤ 1073741824) (hlc : lc ≤ 4294967295) (hcd : c = lc % 16384) (hf1 : f1 = f) (ho1 : o1 = out) :
    Calls Try.prog 54 #[.pointer (some ⟨p, 0, none⟩), .agg #[.int .u32 o, .int .u32 lc]] w (PDone B b k r p tw true (o1 ++ List.replicate (c - f1.col) 32) (stepL true f1 (List.replicate (c - f1.col) 32)) v w) := by
  have hg := fun (x : Obj) => h.grew (w' := w.alloc x) (fun i hi => Below.heap_alloc _ _ i hi)
  have BX := Lib.hid fun (x : Obj) (v' : Value) (wr : World) (hf : FrS (S4 b k r p) v v' (w.alloc x) wr) => h.box x hf
  have c13 : ∀ x, (w.alloc x).cell? ⟨p, 13, none⟩ = some (.int .u8 f.ws) := fun x => by rw [(hg x).c]; rfl
  have c0 : ∀ x, (w.alloc x).cell? ⟨p, 0, none⟩ = some (.iface 134 (.pointer (some ⟨p, 2, none⟩))) := fun x => by rw [(hg x).c]; rfl
  have mm := m_byteT p
  have mixed : Try.prog.follows .mixedOrders = true := by kernel_rfl
  have hwi : ¬ (f.ws : Int) = 1 := by omega
  have hwi2 : (f.ws : Int) ≤ 2 := by omega
  have hwb : ((f.ws : Int) == 1) = false := by simpa using hwi
  have c4 : ∀ x, (w.alloc x).cell? ⟨p, 4, none⟩ = some (.bool f.ls) := fun x => by rw [(hg x).c]; rfl
  have c5 : ∀ x, (w.alloc x).cell? ⟨p, 5, none⟩ = some (.int .u64 f.ind) := fun x => by rw [(hg x).c]; rfl
  have hzz : f.ls = false ∨ (f.ls = true ∧ ¬ (f.ind : Int) = 0 ∧ ((f.ind : Int) == 0) = false) := by
    cases hx : f.ls
    · exact .inl rfl
    · have hne : ¬ (f.ind : Int) = 0 := fun e => hz ⟨hx, by omega⟩
      exact .inr ⟨rfl, hne, by simpa using hne⟩
  clear hz
  have hcol : 1 ≤ f1.col ∧ f1.col ≤ 1073741824 - 16384 := by
    rw [hf1]; omega
  have hlo : o1.length + 16384 + 4096 ≤ 1073741824 := by rw [ho1]; omega
  have HF1 := Lib.hid hf1
  have HO1 := Lib.hid ho1
  have hcc : c ≤ 16383 := by omega
  have CL := Lib.hid fun W => col65g o lc c W hlc hcd
  have hci : (c : Int) ≤ 16383 := by omega
  have hwc : IntKind.i64.wrap (c : Int) = c := by rw [IntKind.wrap_i64]; omega
  have HG := Lib.hid hg
  clear hg h hf1 ho1 hcd hlc
  rcases hzz with hz1 | ⟨hz1, hz2, hz3⟩
  all_goals (
  rw [hz1] at c4
  go_enter Try.func54, Try.ntmps54
  go_wp2
  have A1 := HG.out (.cells #[.int .u32 o, .int .u32 lc] 43)
  have B1 := FrS.refl (S4 b k r p) v (w.alloc (.cells #[.int .u32 o, .int .u32 lc] 43))
  rw [← HF1.out, ← HO1.out] at A1
  obtain ⟨W1, hW1⟩ : ∃ W1, W1 = w.alloc (.cells #[.int .u32 o, .int .u32 lc] 43) := ⟨_, rfl⟩
  have B2 : FrS (S4 b k r p) v v (w.alloc (.cells #[.int .u32 o, .int .u32 lc] 43)) W1 := by rw [hW1]; exact B1
  rw [← hW1] at A1 ⊢
  have A0 := Lib.hid A1
  have B0 := Lib.hid B2
  clear B1 HG A1 B2 hW1
  have BN := Lib.hid (BX.out _ _ _ B0.out)
  clear c4 c5 c13 c0
  have S0 : Hid (AtS B b k r p tw true o1 f1 v v W1 W1 0) := Lib.hid ⟨by rw [List.replicate_zero, List.append_nil, stepL_nil]; exact A0.out, FrS.refl _ _ _⟩
  go_loopg [] (c - f1.col) (fun g wr => ∃ (j : Nat) (v2 : Value), j ≤ c - f1.col ∧ c - f1.col - j ≤ g ∧ Hid (AtS B b k r p tw true o1 f1 v v2 W1 wr j))
  case atStart => exact ⟨0, v, by omega, by omega, S0⟩
  case round =>
    clear S0
    obtain ⟨j, v2, hj, hg2, AT⟩ := hrel
    have hcolj : (stepL true f1 (List.replicate j 32)).col = f1.col + j := by rw [stepL_spaces]; rfl
    obtain ⟨q, hq⟩ : ∃ q, q = f1.col + j := ⟨_, rfl⟩
    have hN := BX.out _ _ _ (B0.out.trans AT.out.fr)
    have hNl := Lib.lt_of_heap hN
    have hpl := AT.out.ps.lt
    have n0 : ∀ n os, (Sort.grow (wr.drewN n) os).cell? ⟨w.heap.size, 0, none⟩ = some (.int .u32 o) := fun n os => (Sort.cell?_grow (wr.drewN n) os _ hNl).trans (by show wr.cell? _ = _; rw [Lib.cell_of_heap hN]; rfl)
    have n1 : ∀ n os, (Sort.grow (wr.drewN n) os).cell? ⟨w.heap.size, 1, none⟩ = some (.int .u32 lc) := fun n os => (Sort.cell?_grow (wr.drewN n) os _ hNl).trans (by show wr.cell? _ = _; rw [Lib.cell_of_heap hN]; rfl)
    have c3 : ∀ n os, (Sort.grow (wr.drewN n) os).cell? ⟨p, 3, none⟩ = some (.int .i64 q) := fun n os => (Sort.cell?_grow (wr.drewN n) os _ hpl).trans (by show wr.cell? _ = _; rw [AT.out.ps.c, hq, ← hcolj]; rfl)
    have hq1 : (0 : Int) < (q : Int) := by omega
    have hq2 : (q : Int) ≤ 1073741824 := by omega
    have SP : Hid (∀ W : World, (∀ i, i < wr.heap.size → W.heap[i]? = wr.heap[i]?) → PS B b k r p tw true (o1 ++ List.replicate j 32) (stepL true f1 (List.replicate j 32)) v2 W) := Lib.hid fun W hW => AT.out.ps.grew hW
    have HQ := Lib.hid hq
    have HCJ := Lib.hid hcolj
    clear hN hq hcolj
    have hqn : 0 < q := by omega
    have dq : decide (0 < q) = true := decide_eq_true hqn
    by_cases hqc : q < c
    · have dqc : decide ((q : Int) < IntKind.i64.wrap (c : Int)) = true := by rw [hwc]; exact decide_eq_true (by omega)
      go_wp2
      go_quiet_grown (first | (go_at_call 65; refine Calls.grown_of (CL.out wr _ _)))
      have H3 := Lib.hid (SP.out (Sort.grow (wr.drewN nq) osq) (fun i hi => Sort.heap_grow_old (wr.drewN nq) osq hi))
      have F3 : Hid (FrS (S4 b k r p) v2 v2 wr (Sort.grow (wr.drewN nq) osq)) := Lib.hid ⟨rfl, rfl, rfl, by rw [Sort.size_grow]; exact Nat.le_add_right _ _, fun i hi _ _ => Sort.heap_grow_old (wr.drewN nq) osq hi, .inl rfl⟩
      generalize Sort.grow (wr.drewN nq) osq = w3 at H3 F3 ⊢
      have e0 : w3.cell? ⟨p, 0, none⟩ = some (.iface 134 (.pointer (some ⟨p, 2, none⟩))) := by rw [H3.out.c]; rfl
      have WB := Lib.hid (byte142 B b k r p tw _ _ v2 32 w3 H3.out (by simp; omega) (by rw [HCJ.out]; omega))
      clear n0 n1 c3 CL SP
      go_wp2_with (go_at_call 142; refine WB.out.mono ?_; rintro e w4 ⟨rfl, v4, t1, t2⟩; have A4 := Lib.hid (AT.out.step t1 (F3.out.trans t2)); clear t1 t2 WB)
      go_roundg (c - f1.col - (j + 1))
      case measure => have := HQ.out; omega
      case rel => exact ⟨j + 1, v4, by have := HQ.out; omega, Nat.le_refl _, A4⟩
    · have dqc : decide ((q : Int) < IntKind.i64.wrap (c : Int)) = false := by rw [hwc]; exact decide_eq_false (by omega)
      go_wp2
      go_quiet_grown (first | (go_at_call 65; refine Calls.grown_of (CL.out wr _ _)))
      have H3 := Lib.hid (SP.out (Sort.grow (wr.drewN nq) osq) (fun i hi => Sort.heap_grow_old (wr.drewN nq) osq hi))
      have F3 : Hid (FrS (S4 b k r p) v2 v2 wr (Sort.grow (wr.drewN nq) osq)) := Lib.hid ⟨rfl, rfl, rfl, by rw [Sort.size_grow]; exact Nat.le_add_right _ _, fun i hi _ _ => Sort.heap_grow_old (wr.drewN nq) osq hi, .inl rfl⟩
      generalize Sort.grow (wr.drewN nq) osq = w3 at H3 F3 ⊢
      have hjm : j = c - f1.col := by have := HQ.out; omega
      go_wp2
      go_end0
      have h5 := H3.out
      rw [hjm] at h5
      exact ⟨rfl, v2, h5, (((FrS.refl (S4 b k r p) v w).alloc _).trans B0.out).trans (AT.out.fr.trans F3.out)⟩)

end Go.Proofs.Ytonhphjejlidiaa
