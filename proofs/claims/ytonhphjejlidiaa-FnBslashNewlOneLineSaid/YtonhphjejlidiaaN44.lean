/-
  The walk of zzPrinter: a printer over a fresh buffer, with its fields set. Conditions: those in each theorem.
-/
import Derived.Test.YtonhphjejlidiaaN43
import Derived.Test.YtonhphjejlidiaaLa
namespace Go.Proofs.Ytonhphjejlidiaa
set_option linter.unusedVariables false
open Go.Shelf Go.RowKit Go.Lib

/-- the configuration's eleven cells -/
def cfg (mini single kp : Bool) (ind lev line ws : Nat) (t : ByteArray) : Array Value := #[.bool mini, .bool single, .bool kp, .int .u64 ind, .int .u64 lev, .int .u64 line, .int .u8 ws, .bool false, .bool false, .bool false, .string t]
/-- the printer's fields behind it -/
def cfgF (mini single kp : Bool) (ind lev line ws : Nat) (t : ByteArray) : PF :=
  { stepL kp (wresetF kp (resetF { zeroF with mini := mini, single := single, ind := ind })) t.data.toList with level := lev, line := line, ws := ws, wn := false, mn := false, semi := false }

/-- the world behind the options' making -/
structure Laid5 (W0 : World) (mini single kp : Bool) (ind : Nat) (V : World) : Prop where
  size : V.heap.size = W0.heap.size + 5
  block : ∀ i, i < W0.heap.size → V.heap[i]? = W0.heap[i]?
  os : V.os = W0.os
  tape : V.tape = W0.tape
  output : V.output = W0.output
  c0 : V.cell? ⟨W0.heap.size + 1 + 1 + 1 + 1, 0, none⟩ = some (.func (.func 71) #[] #[.pointer (some ⟨W0.heap.size, 0, none⟩)])
  c1 : V.cell? ⟨W0.heap.size + 1 + 1 + 1 + 1, 1, none⟩ = some (.func (.func 72) #[] #[.pointer (some ⟨W0.heap.size + 1, 0, none⟩)])
  c2 : V.cell? ⟨W0.heap.size + 1 + 1 + 1 + 1, 2, none⟩ = some (.func (.func 63) #[] #[.pointer (some ⟨W0.heap.size + 1 + 1, 0, none⟩)])
  c3 : V.cell? ⟨W0.heap.size + 1 + 1 + 1 + 1, 3, none⟩ = some (.func (.func 64) #[] #[.pointer (some ⟨W0.heap.size + 1 + 1 + 1, 0, none⟩)])
  b1 : V.cell? ⟨W0.heap.size, 0, none⟩ = some (.bool mini)
  b2 : V.cell? ⟨W0.heap.size + 1, 0, none⟩ = some (.bool single)
  bi : V.cell? ⟨W0.heap.size + 1 + 1, 0, none⟩ = some (.int .u64 ind)
  bk : V.cell? ⟨W0.heap.size + 1 + 1 + 1, 0, none⟩ = some (.bool kp)

theorem new_cell (W : World) (cs : Array Value) (ty : Nat) (i n : Nat) (hn : W.heap.size = n) : (W.alloc (.cells cs ty)).cell? ⟨n, i, none⟩ = cs[i]? := by
  subst hn
  exact Lib.cell_of_heap (heap_alloc_new W (.cells cs ty)) i
theorem laid5 (W0 : World) (mini single kp : Bool) (ind : Nat) : Laid5 W0 mini single kp ind (((((W0.alloc (.cells #[.bool mini] 4)).alloc (.cells #[.bool single] 4)).alloc (.cells #[.int .u64 ind] 22)).alloc (.cells #[.bool kp] 4)).alloc (.cells #[.func (.func 71) #[] #[.pointer (some ⟨W0.heap.size, 0, none⟩)], .func (.func 72) #[] #[.pointer (some ⟨W0.heap.size + 1, 0, none⟩)], .func (.func 63) #[] #[.pointer (some ⟨W0.heap.size + 1 + 1, 0, none⟩)], .func (.func 64) #[] #[.pointer (some ⟨W0.heap.size + 1 + 1 + 1, 0, none⟩)]] 73)) := by
  refine ⟨by simp, fun i hi => ?_, rfl, rfl, rfl, ?_, ?_, ?_, ?_, ?_, ?_, ?_, ?_⟩
  · rw [Below.heap_alloc _ _ _ (by simp; omega), Below.heap_alloc _ _ _ (by simp; omega), Below.heap_alloc _ _ _ (by simp; omega), Below.heap_alloc _ _ _ (by simp; omega), Below.heap_alloc _ _ _ hi]
  · exact (new_cell _ _ _ _ _ (by simp)).trans rfl
  · exact (new_cell _ _ _ _ _ (by simp)).trans rfl
  · exact (new_cell _ _ _ _ _ (by simp)).trans rfl
  · exact (new_cell _ _ _ _ _ (by simp)).trans rfl
  · exact keepa _ (keepa _ (keepa _ (keepa _ ((new_cell _ _ _ _ _ (by simp)).trans rfl))))
  · exact keepa _ (keepa _ (keepa _ ((new_cell _ _ _ _ _ (by simp)).trans rfl)))
  · exact keepa _ (keepa _ ((new_cell _ _ _ _ _ (by simp)).trans rfl))
  · exact keepa _ ((new_cell _ _ _ _ _ (by simp)).trans rfl)
theorem Laid5.drew {W0 : World} {mini single kp : Bool} {ind : Nat} {V : World} (h : Laid5 W0 mini single kp ind V) : ∀ i, i < W0.heap.size → V.drew.heap[i]? = W0.heap[i]? := h.block

theorem belowFrs {B : Nat} {w w1 w2 : World} {v v' : Value} {b k r p : Nat} (h : Below B w w1) (f : FrS (S4 b k r p) v v' w1 w2) (lo : B ≤ b ∧ B ≤ k ∧ B ≤ r ∧ B ≤ p ∧ ∀ g, v.ownBlock = some g → B ≤ g) (hB : B ≤ w.heap.size := by exact Nat.le_refl _) : Below B w w2 :=
  FrS.below h f lo.1 lo.2.1 lo.2.2.1 lo.2.2.2.1 lo.2.2.2.2 hB

/-- what zzPrinter hands back -/
def Made43 (w0 : World) (kp : Bool) (out : List UInt8) (f : PF) (e : Ending) (w' : World) : Prop :=
  ∃ k r p tw v, e = .returned (.pointer (some ⟨p, 0, none⟩)) ∧ PS w0.heap.size w0.heap.size k r p tw kp out f v w' ∧ Below w0.heap.size w0 w'

set_option maxRecDepth 40000 in
set_option maxHeartbeats 16000000 in
theorem print43_false (mini single : Bool) (ind lev line ws : Nat) (t : ByteArray) (w0 w : World) (hb : w.heap[w0.heap.size]? = some (.cells #[.slice none 0 0, .int .i64 0, .int .i8 0] 67 (0, 0))) (hB : Below w0.heap.size w0 w) (hts : t.size ≤ 65536) (hws : ws ≤ 2) (hlev : lev ≤ 18446744073709551615) (hline : line ≤ 18446744073709551615) :
    Calls Try.prog 43 #[.agg (cfg mini single false ind lev line ws t), .pointer (some ⟨w0.heap.size, 0, none⟩)] w (Made43 w0 false ([] ++ t.data.toList) (cfgF mini single false ind lev line ws t)) := by
  have hwi : (ws : Int) ≤ 2 := by omega
  have hlevi : (lev : Int) ≤ 18446744073709551615 := by omega
  have hlinei : (line : Int) ≤ 18446744073709551615 := by omega
  have hN := heap_alloc_new w (.cells (cfg mini single false ind lev line ws t) 25)
  have hbw := Lib.lt_of_heap hb
  have hbl := Below.heap_alloc w (.cells (cfg mini single false ind lev line ws t) 25)
  have hsz : (w.alloc (.cells (cfg mini single false ind lev line ws t) 25)).heap.size = w.heap.size + 1 := by simp
  have hB0 := hB.alloc (Nat.le_of_lt hbw) (.cells (cfg mini single false ind lev line ws t) 25)
  have c0 : (w.alloc (.cells (cfg mini single false ind lev line ws t) 25)).cell? ⟨w.heap.size, 0, none⟩ = some (.bool mini) := by rw [Lib.cell_of_heap hN]; rfl
  have c1 : (w.alloc (.cells (cfg mini single false ind lev line ws t) 25)).cell? ⟨w.heap.size, 1, none⟩ = some (.bool single) := by rw [Lib.cell_of_heap hN]; rfl
  have c2 : (w.alloc (.cells (cfg mini single false ind lev line ws t) 25)).cell? ⟨w.heap.size, 2, none⟩ = some (.bool false) := by rw [Lib.cell_of_heap hN]; rfl
  have c3 : (w.alloc (.cells (cfg mini single false ind lev line ws t) 25)).cell? ⟨w.heap.size, 3, none⟩ = some (.int .u64 ind) := by rw [Lib.cell_of_heap hN]; rfl
  have HBUF := Lib.hid ((hbl _ hbw).trans hb)
  have mmr := m_resetF
  have mms := m_strF
  clear hb hB hbl
  have HC := Lib.hid hN
  clear hN
  unfold cfg
  unfold cfg at c0 c1 c2 c3 HBUF HC hsz hB0
  go_enter Try.func43, Try.ntmps43
  go_wp2_with (fail)
  generalize hW : w.alloc (.cells _ 25) = W0 at c0 c1 c2 c3 HBUF HC hsz hB0 ⊢
  clear hW
  have HB0 := Lib.hid hB0
  have HS := Lib.hid hsz
  clear hB0 hsz
  have LA := Lib.hid (laid5 W0 mini single false ind)
  go_region_held3 (fun W => W.cell? ⟨w.heap.size, 0, none⟩ = some (.bool mini) ∧ W.cell? ⟨w.heap.size, 1, none⟩ = some (.bool single) ∧ W.cell? ⟨w.heap.size, 2, none⟩ = some (.bool false) ∧ W.cell? ⟨w.heap.size, 3, none⟩ = some (.int .u64 ind)) (first | (refine ⟨?_, ?_, ?_, ?_⟩ <;> ((try simp only [World.cell?_drew]); (repeat' (first | assumption | refine keepa _ ?_ | refine hF _ _ ?_)))))
    (first | (go_at_call 60; refine (mk60 mini _).mono ?_; rintro e w1 ⟨rfl, rfl⟩) | (go_at_call 61; refine (mk61 single _).mono ?_; rintro e w2 ⟨rfl, rfl⟩) | (go_at_call 49; refine (mk49 ind _).mono ?_; rintro e w3 ⟨rfl, rfl⟩) | (go_at_call 50; refine (mk50 false _).mono ?_; rintro e w4 ⟨rfl, rfl⟩) | (go_at_call 48; generalize hV : World.alloc (World.alloc (World.alloc (World.alloc (World.alloc W0 _) _) _) _) _ = V; have LV := LA.out; rw [hV] at LV; have L5 := Lib.hid LV; clear LV hV LA; refine (new48q _ _ _ _ _ ind 4 mini single false V.drew L5.out.c0 L5.out.c1 L5.out.c2 L5.out.c3 L5.out.b1 L5.out.b2 L5.out.bi L5.out.bk).mono ?_; rintro e w5 ⟨rfl, hNP⟩; have N1 : Hid (NewP V.drew false { zeroF with mini := mini, single := single, ind := ind } (V.heap.size + 1) V.heap.size (V.heap.size + 3) (V.heap.size + 2) w5) := Lib.hid hNP; have hF : ∀ (a : Addr) x, W0.cell? a = some x → w5.cell? a = some x := (fun a x hx => hNP.cell ((World.cell?_of_block (L5.out.drew a.block (World.block_lt_of_cell? W0 a hx))).trans hx)); clear hNP))
  have HCN : Hid (w5.heap[w.heap.size]? = some (.cells #[.bool mini, .bool single, .bool false, .int .u64 ind, .int .u64 lev, .int .u64 line, .int .u8 ws, .bool false, .bool false, .bool false, .string t] 25 (0, 0))) := Lib.hid ((N1.out.below.block _ (by show w.heap.size < V.heap.size; have := L5.out.size; have := HS.out; omega)).trans ((L5.out.drew _ (by have := HS.out; omega)).trans HC.out))
  clear c0 c1 c2 c3 hF
  have HCB : Hid (w.heap.size < V.heap.size ∧ w0.heap.size < w.heap.size) := Lib.hid ⟨by have := L5.out.size; have := HS.out; omega, hbw⟩
  have HBV : Hid (Below w0.heap.size w0 V.drew) := Lib.hid ⟨L5.out.os.trans HB0.out.os, L5.out.tape.trans HB0.out.tape, L5.out.output.trans HB0.out.output, (by show w0.heap.size ≤ V.heap.size; have := HCB.out; omega), fun i hi => (L5.out.drew i (by have := HS.out; have := HCB.out; omega)).trans (HB0.out.block i hi)⟩
  have HBF : Hid (V.drew.heap[w0.heap.size]? = some (.cells #[.slice none 0 0, .int .i64 0, .int .i8 0] 67 (0, 0))) := Lib.hid ((L5.out.drew _ (by have := HS.out; have := HCB.out; omega)).trans HBUF.out)
  clear HBUF HC HB0 HS L5 hbw
  go_wp2_with (first | (go_at_call 51; refine (reset51 false _ _ _ _ _ N1.out.pr).mono ?_; rintro e w2 ⟨rfl, t1, t2⟩; have N2 := Lib.hid (N1.out.turn t1 t2); have HC2 := Lib.hid (((t2 (.slice none 0 0)).block _ (Lib.lt_of_heap HCN.out) (fun e => by have := HCB.out; unfold P1 at e; omega) (by simp [Value.ownBlock])).trans HCN.out); have c0 : w2.cell? ⟨V.heap.size + 3, 0, none⟩ = some (.iface 79 (.pointer (some ⟨V.heap.size + 1, 0, none⟩))) := (by rw [Lib.cell_of_heap t1]; rfl); clear t1 t2 N1 HCN) | (go_at_call 127; refine (wreset127 w0.heap.size _ _ _ N2.out.wr).mono ?_; rintro e w3 ⟨rfl, t1, t2⟩; have N3 := Lib.hid (N2.out.ready (w := w0) HBF.out (by show w0.heap.size < V.heap.size; have := HCB.out; omega) HBV.out t1 t2); have HC3 := Lib.hid (((t2 (.slice none 0 0)).block _ (Lib.lt_of_heap HC2.out) (fun e => by have := HCB.out; unfold P1 at e; omega) (by simp [Value.ownBlock])).trans HC2.out); clear t1 t2 N2 HC2 c0))
  have d0 : w3.cell? ⟨V.heap.size + 3, 0, none⟩ = some (.iface 79 (.pointer (some ⟨V.heap.size + 1, 0, none⟩))) := by rw [N3.out.1.c]; rfl
  have d10 : w3.cell? ⟨w.heap.size, 10, none⟩ = some (.string t) := by rw [Lib.cell_of_heap HC3.out]; rfl
  go_region_held3 (fun W => W.cell? ⟨V.heap.size + 3, 0, none⟩ = some (.iface 79 (.pointer (some ⟨V.heap.size + 1, 0, none⟩))) ∧ W.cell? ⟨w.heap.size, 10, none⟩ = some (.string t)) (first | (exact ⟨e0, e10⟩) | (refine ⟨?_, ?_⟩ <;> ((try simp only [World.cell?_drew]); assumption)))
    (first | (go_at_call 130; refine (str130 w0.heap.size w0.heap.size _ _ _ _ _ _ _ t w3.drew (N3.out.1.grew (fun _ _ => rfl)) (by simp; omega)).mono ?_; rintro e w4 ⟨rfl, v4, t1, t2⟩; have e0 : w4.cell? ⟨V.heap.size + 3, 0, none⟩ = some (.iface 79 (.pointer (some ⟨V.heap.size + 1, 0, none⟩))) := (by rw [t1.c]; rfl); have HC4 := Lib.hid ((t2.block w.heap.size (Lib.lt_of_heap (w := w3) HC3.out) (by have := HCB.out; rintro ((e | e | e) | e) <;> omega) (by simp [Value.ownBlock])).trans (show w3.drew.heap[w.heap.size]? = _ from HC3.out)); have e10 : w4.cell? ⟨w.heap.size, 10, none⟩ = some (.string t) := (by rw [Lib.cell_of_heap HC4.out]; rfl); have N4 := Lib.hid (And.intro t1 t2); clear t1 t2))
  clear d0 d10 e0 e10 HC3 HBF HBV
  have hne : w.heap.size ≠ V.heap.size + 3 := by have := HCB.out; omega
  have c21 : w4.cell? ⟨V.heap.size + 3, 21, none⟩ = some (.int .u64 0) := by rw [N4.out.1.c]; rfl
  have c19 : w4.cell? ⟨V.heap.size + 3, 19, none⟩ = some (.int .u64 0) := by rw [N4.out.1.c]; rfl
  have c13 : w4.cell? ⟨V.heap.size + 3, 13, none⟩ = some (.int .u8 2) := by rw [N4.out.1.c]; rfl
  have c14 : w4.cell? ⟨V.heap.size + 3, 14, none⟩ = some (.bool false) := by rw [N4.out.1.c]; rfl
  have c15 : w4.cell? ⟨V.heap.size + 3, 15, none⟩ = some (.bool false) := by rw [N4.out.1.c]; rfl
  have c16 : w4.cell? ⟨V.heap.size + 3, 16, none⟩ = some (.bool false) := by rw [N4.out.1.c]; rfl
  have hf := N4.out.1.f
  have nc : ∀ (W : World) (j : Nat) (i : Nat) (x : Value), (W.setCell ⟨V.heap.size + 3, i, none⟩ x).cell? ⟨w.heap.size, j, none⟩ = W.cell? ⟨w.heap.size, j, none⟩ := fun W j i x => World.cell?_of_block (a := ⟨w.heap.size, j, none⟩) (Below.heap_setCell _ _ _ _ hne)
  have e4 : w4.cell? ⟨w.heap.size, 4, none⟩ = some (.int .u64 lev) := by rw [Lib.cell_of_heap HC4.out]; rfl
  have e5 : w4.cell? ⟨w.heap.size, 5, none⟩ = some (.int .u64 line) := by rw [Lib.cell_of_heap HC4.out]; rfl
  have e6 : w4.cell? ⟨w.heap.size, 6, none⟩ = some (.int .u8 ws) := by rw [Lib.cell_of_heap HC4.out]; rfl
  have e7 : w4.cell? ⟨w.heap.size, 7, none⟩ = some (.bool false) := by rw [Lib.cell_of_heap HC4.out]; rfl
  have e8 : w4.cell? ⟨w.heap.size, 8, none⟩ = some (.bool false) := by rw [Lib.cell_of_heap HC4.out]; rfl
  have e9 : w4.cell? ⟨w.heap.size, 9, none⟩ = some (.bool false) := by rw [Lib.cell_of_heap HC4.out]; rfl
  clear HC4 HCB
  go_wp2
  go_ret
  refine ⟨_, _, _, _, v4, rfl, (((((N4.out.1.set 21 _ { stepL false (wresetF false (resetF { zeroF with mini := mini, single := single, ind := ind })) t.data.toList with level := lev } rfl).set 19 _ { stepL false (wresetF false (resetF { zeroF with mini := mini, single := single, ind := ind })) t.data.toList with level := lev, line := line } rfl).set 13 _ { stepL false (wresetF false (resetF { zeroF with mini := mini, single := single, ind := ind })) t.data.toList with level := lev, line := line, ws := ws } rfl).set 14 _ { stepL false (wresetF false (resetF { zeroF with mini := mini, single := single, ind := ind })) t.data.toList with level := lev, line := line, ws := ws, wn := false } rfl).set 15 _ { stepL false (wresetF false (resetF { zeroF with mini := mini, single := single, ind := ind })) t.data.toList with level := lev, line := line, ws := ws, wn := false, mn := false } rfl).set 16 _ (cfgF mini single false ind lev line ws t) rfl, ?_⟩
  have lo := N3.out.1.low
  exact belowFrs N3.out.2.drew (fr4_set (fr4_set (fr4_set (fr4_set (fr4_set (fr4_set N4.out.2 21 _) 19 _) 13 _) 14 _) 15 _) 16 _) lo

set_option maxRecDepth 40000 in
set_option maxHeartbeats 16000000 in
theorem print43_true (mini single : Bool) (ind lev line ws : Nat) (t : ByteArray) (w0 w : World) (hb : w.heap[w0.heap.size]? = some (.cells #[.slice none 0 0, .int .i64 0, .int .i8 0] 67 (0, 0))) (hB : Below w0.heap.size w0 w) (hts : t.size ≤ 65536) (hws : ws ≤ 2) (hlev : lev ≤ 18446744073709551615) (hline : line ≤ 18446744073709551615) :
    Calls Try.prog 43 #[.agg (cfg mini single true ind lev line ws t), .pointer (some ⟨w0.heap.size, 0, none⟩)] w (Made43 w0 true ([] ++ t.data.toList) (cfgF mini single true ind lev line ws t)) := by
  have hwi : (ws : Int) ≤ 2 := by omega
  have hlevi : (lev : Int) ≤ 18446744073709551615 := by omega
  have hlinei : (line : Int) ≤ 18446744073709551615 := by omega
  have hN := heap_alloc_new w (.cells (cfg mini single true ind lev line ws t) 25)
  have hbw := Lib.lt_of_heap hb
  have hbl := Below.heap_alloc w (.cells (cfg mini single true ind lev line ws t) 25)
  have hsz : (w.alloc (.cells (cfg mini single true ind lev line ws t) 25)).heap.size = w.heap.size + 1 := by simp
  have hB0 := hB.alloc (Nat.le_of_lt hbw) (.cells (cfg mini single true ind lev line ws t) 25)
  have c0 : (w.alloc (.cells (cfg mini single true ind lev line ws t) 25)).cell? ⟨w.heap.size, 0, none⟩ = some (.bool mini) := by rw [Lib.cell_of_heap hN]; rfl
  have c1 : (w.alloc (.cells (cfg mini single true ind lev line ws t) 25)).cell? ⟨w.heap.size, 1, none⟩ = some (.bool single) := by rw [Lib.cell_of_heap hN]; rfl
  have c2 : (w.alloc (.cells (cfg mini single true ind lev line ws t) 25)).cell? ⟨w.heap.size, 2, none⟩ = some (.bool true) := by rw [Lib.cell_of_heap hN]; rfl
  have c3 : (w.alloc (.cells (cfg mini single true ind lev line ws t) 25)).cell? ⟨w.heap.size, 3, none⟩ = some (.int .u64 ind) := by rw [Lib.cell_of_heap hN]; rfl
  have HBUF := Lib.hid ((hbl _ hbw).trans hb)
  have mmr := m_resetT
  have mms := m_strT
  clear hb hB hbl
  have HC := Lib.hid hN
  clear hN
  unfold cfg
  unfold cfg at c0 c1 c2 c3 HBUF HC hsz hB0
  go_enter Try.func43, Try.ntmps43
  go_wp2_with (fail)
  generalize hW : w.alloc (.cells _ 25) = W0 at c0 c1 c2 c3 HBUF HC hsz hB0 ⊢
  clear hW
  have HB0 := Lib.hid hB0
  have HS := Lib.hid hsz
  clear hB0 hsz
  have LA := Lib.hid (laid5 W0 mini single true ind)
  go_region_held3 (fun W => W.cell? ⟨w.heap.size, 0, none⟩ = some (.bool mini) ∧ W.cell? ⟨w.heap.size, 1, none⟩ = some (.bool single) ∧ W.cell? ⟨w.heap.size, 2, none⟩ = some (.bool true) ∧ W.cell? ⟨w.heap.size, 3, none⟩ = some (.int .u64 ind)) (first | (refine ⟨?_, ?_, ?_, ?_⟩ <;> ((try simp only [World.cell?_drew]); (repeat' (first | assumption | refine keepa _ ?_ | refine hF _ _ ?_)))))
    (first | (go_at_call 60; refine (mk60 mini _).mono ?_; rintro e w1 ⟨rfl, rfl⟩) | (go_at_call 61; refine (mk61 single _).mono ?_; rintro e w2 ⟨rfl, rfl⟩) | (go_at_call 49; refine (mk49 ind _).mono ?_; rintro e w3 ⟨rfl, rfl⟩) | (go_at_call 50; refine (mk50 true _).mono ?_; rintro e w4 ⟨rfl, rfl⟩) | (go_at_call 48; generalize hV : World.alloc (World.alloc (World.alloc (World.alloc (World.alloc W0 _) _) _) _) _ = V; have LV := LA.out; rw [hV] at LV; have L5 := Lib.hid LV; clear LV hV LA; refine (new48q _ _ _ _ _ ind 4 mini single true V.drew L5.out.c0 L5.out.c1 L5.out.c2 L5.out.c3 L5.out.b1 L5.out.b2 L5.out.bi L5.out.bk).mono ?_; rintro e w5 ⟨rfl, hNP⟩; have N1 : Hid (NewP V.drew true { zeroF with mini := mini, single := single, ind := ind } (V.heap.size + 1) V.heap.size (V.heap.size + 3) (V.heap.size + 2) w5) := Lib.hid hNP; have hF : ∀ (a : Addr) x, W0.cell? a = some x → w5.cell? a = some x := (fun a x hx => hNP.cell ((World.cell?_of_block (L5.out.drew a.block (World.block_lt_of_cell? W0 a hx))).trans hx)); clear hNP))
  have HCN : Hid (w5.heap[w.heap.size]? = some (.cells #[.bool mini, .bool single, .bool true, .int .u64 ind, .int .u64 lev, .int .u64 line, .int .u8 ws, .bool false, .bool false, .bool false, .string t] 25 (0, 0))) := Lib.hid ((N1.out.below.block _ (by show w.heap.size < V.heap.size; have := L5.out.size; have := HS.out; omega)).trans ((L5.out.drew _ (by have := HS.out; omega)).trans HC.out))
  clear c0 c1 c2 c3 hF
  have HCB : Hid (w.heap.size < V.heap.size ∧ w0.heap.size < w.heap.size) := Lib.hid ⟨by have := L5.out.size; have := HS.out; omega, hbw⟩
  have HBV : Hid (Below w0.heap.size w0 V.drew) := Lib.hid ⟨L5.out.os.trans HB0.out.os, L5.out.tape.trans HB0.out.tape, L5.out.output.trans HB0.out.output, (by show w0.heap.size ≤ V.heap.size; have := HCB.out; omega), fun i hi => (L5.out.drew i (by have := HS.out; have := HCB.out; omega)).trans (HB0.out.block i hi)⟩
  have HBF : Hid (V.drew.heap[w0.heap.size]? = some (.cells #[.slice none 0 0, .int .i64 0, .int .i8 0] 67 (0, 0))) := Lib.hid ((L5.out.drew _ (by have := HS.out; have := HCB.out; omega)).trans HBUF.out)
  clear HBUF HC HB0 HS L5 hbw
  go_wp2_with (first | (go_at_call 51; refine (reset51 true _ _ _ _ _ N1.out.pr).mono ?_; rintro e w2 ⟨rfl, t1, t2⟩; have N2 := Lib.hid (N1.out.turn t1 t2); have HC2 := Lib.hid (((t2 (.slice none 0 0)).block _ (Lib.lt_of_heap HCN.out) (fun e => by have := HCB.out; unfold P1 at e; omega) (by simp [Value.ownBlock])).trans HCN.out); have c0 : w2.cell? ⟨V.heap.size + 3, 0, none⟩ = some (.iface 134 (.pointer (some ⟨V.heap.size + 3, 2, none⟩))) := (by rw [Lib.cell_of_heap t1]; rfl); clear t1 t2 N1 HCN) | (go_at_call 140; refine (creset140 w0.heap.size _ _ _ _ _ _ N2.out.pr N2.out.wr N2.out.nkp).mono ?_; rintro e w3 ⟨rfl, wq, t1, t2, t3, t4, t5⟩; have N3 := Lib.hid ((N2.out.turn t1 t2).ready (w := w0) HBF.out (by show w0.heap.size < V.heap.size; have := HCB.out; omega) HBV.out t4 t5); have hcq := ((t2 (.slice none 0 0)).block _ (Lib.lt_of_heap HC2.out) (fun e => by have := HCB.out; unfold P1 at e; omega) (by simp [Value.ownBlock])).trans HC2.out; have HC3 := Lib.hid (((t5 (.slice none 0 0)).block _ (Lib.lt_of_heap hcq) (fun e => by have := HCB.out; unfold P1 at e; omega) (by simp [Value.ownBlock])).trans hcq); clear hcq t3 t4 t5; clear t1 t2 N2 HC2 c0))
  have d0 : w3.cell? ⟨V.heap.size + 3, 0, none⟩ = some (.iface 134 (.pointer (some ⟨V.heap.size + 3, 2, none⟩))) := by rw [N3.out.1.c]; rfl
  have d10 : w3.cell? ⟨w.heap.size, 10, none⟩ = some (.string t) := by rw [Lib.cell_of_heap HC3.out]; rfl
  go_region_held3 (fun W => W.cell? ⟨V.heap.size + 3, 0, none⟩ = some (.iface 134 (.pointer (some ⟨V.heap.size + 3, 2, none⟩))) ∧ W.cell? ⟨w.heap.size, 10, none⟩ = some (.string t)) (first | (exact ⟨e0, e10⟩) | (refine ⟨?_, ?_⟩ <;> ((try simp only [World.cell?_drew]); assumption)))
    (first | (go_at_call 143; refine (str143 w0.heap.size w0.heap.size _ _ _ _ _ _ _ t w3.drew (N3.out.1.grew (fun _ _ => rfl)) (by simp; omega) (by show 1 + t.size + 1 ≤ _; omega)).mono ?_; rintro e w4 ⟨rfl, v4, t1, t2⟩; have e0 : w4.cell? ⟨V.heap.size + 3, 0, none⟩ = some (.iface 134 (.pointer (some ⟨V.heap.size + 3, 2, none⟩))) := (by rw [t1.c]; rfl); have HC4 := Lib.hid ((t2.block w.heap.size (Lib.lt_of_heap (w := w3) HC3.out) (by have := HCB.out; rintro ((e | e | e) | e) <;> omega) (by simp [Value.ownBlock])).trans (show w3.drew.heap[w.heap.size]? = _ from HC3.out)); have e10 : w4.cell? ⟨w.heap.size, 10, none⟩ = some (.string t) := (by rw [Lib.cell_of_heap HC4.out]; rfl); have N4 := Lib.hid (And.intro t1 t2); clear t1 t2))
  clear d0 d10 e0 e10 HC3 HBF HBV
  have hne : w.heap.size ≠ V.heap.size + 3 := by have := HCB.out; omega
  have c21 : w4.cell? ⟨V.heap.size + 3, 21, none⟩ = some (.int .u64 0) := by rw [N4.out.1.c]; rfl
  have c19 : w4.cell? ⟨V.heap.size + 3, 19, none⟩ = some (.int .u64 0) := by rw [N4.out.1.c]; rfl
  have c13 : w4.cell? ⟨V.heap.size + 3, 13, none⟩ = some (.int .u8 2) := by rw [N4.out.1.c]; rfl
  have c14 : w4.cell? ⟨V.heap.size + 3, 14, none⟩ = some (.bool false) := by rw [N4.out.1.c]; rfl
  have c15 : w4.cell? ⟨V.heap.size + 3, 15, none⟩ = some (.bool false) := by rw [N4.out.1.c]; rfl
  have c16 : w4.cell? ⟨V.heap.size + 3, 16, none⟩ = some (.bool false) := by rw [N4.out.1.c]; rfl
  have hf := N4.out.1.f
  have nc : ∀ (W : World) (j : Nat) (i : Nat) (x : Value), (W.setCell ⟨V.heap.size + 3, i, none⟩ x).cell? ⟨w.heap.size, j, none⟩ = W.cell? ⟨w.heap.size, j, none⟩ := fun W j i x => World.cell?_of_block (a := ⟨w.heap.size, j, none⟩) (Below.heap_setCell _ _ _ _ hne)
  have e4 : w4.cell? ⟨w.heap.size, 4, none⟩ = some (.int .u64 lev) := by rw [Lib.cell_of_heap HC4.out]; rfl
  have e5 : w4.cell? ⟨w.heap.size, 5, none⟩ = some (.int .u64 line) := by rw [Lib.cell_of_heap HC4.out]; rfl
  have e6 : w4.cell? ⟨w.heap.size, 6, none⟩ = some (.int .u8 ws) := by rw [Lib.cell_of_heap HC4.out]; rfl
  have e7 : w4.cell? ⟨w.heap.size, 7, none⟩ = some (.bool false) := by rw [Lib.cell_of_heap HC4.out]; rfl
  have e8 : w4.cell? ⟨w.heap.size, 8, none⟩ = some (.bool false) := by rw [Lib.cell_of_heap HC4.out]; rfl
  have e9 : w4.cell? ⟨w.heap.size, 9, none⟩ = some (.bool false) := by rw [Lib.cell_of_heap HC4.out]; rfl
  clear HC4 HCB
  go_wp2
  go_ret
  refine ⟨_, _, _, _, v4, rfl, (((((N4.out.1.set 21 _ { stepL true (wresetF true (resetF { zeroF with mini := mini, single := single, ind := ind })) t.data.toList with level := lev } rfl).set 19 _ { stepL true (wresetF true (resetF { zeroF with mini := mini, single := single, ind := ind })) t.data.toList with level := lev, line := line } rfl).set 13 _ { stepL true (wresetF true (resetF { zeroF with mini := mini, single := single, ind := ind })) t.data.toList with level := lev, line := line, ws := ws } rfl).set 14 _ { stepL true (wresetF true (resetF { zeroF with mini := mini, single := single, ind := ind })) t.data.toList with level := lev, line := line, ws := ws, wn := false } rfl).set 15 _ { stepL true (wresetF true (resetF { zeroF with mini := mini, single := single, ind := ind })) t.data.toList with level := lev, line := line, ws := ws, wn := false, mn := false } rfl).set 16 _ (cfgF mini single true ind lev line ws t) rfl, ?_⟩
  have lo := N3.out.1.low
  exact belowFrs N3.out.2.drew (fr4_set (fr4_set (fr4_set (fr4_set (fr4_set (fr4_set N4.out.2 21 _) 19 _) 13 _) 14 _) 15 _) 16 _) lo

theorem print43 (kp mini single : Bool) (ind lev line ws : Nat) (t : ByteArray) (w0 w : World) (hb : w.heap[w0.heap.size]? = some (.cells #[.slice none 0 0, .int .i64 0, .int .i8 0] 67 (0, 0))) (hB : Below w0.heap.size w0 w) (hts : t.size ≤ 65536) (hws : ws ≤ 2) (hlev : lev ≤ 18446744073709551615) (hline : line ≤ 18446744073709551615) :
    Calls Try.prog 43 #[.agg (cfg mini single kp ind lev line ws t), .pointer (some ⟨w0.heap.size, 0, none⟩)] w (Made43 w0 kp ([] ++ t.data.toList) (cfgF mini single kp ind lev line ws t)) := by
  cases kp
  · exact print43_false mini single ind lev line ws t w0 w hb hB hts hws hlev hline
  · exact print43_true mini single ind lev line ws t w0 w hb hB hts hws hlev hline
end Go.Proofs.Ytonhphjejlidiaa
