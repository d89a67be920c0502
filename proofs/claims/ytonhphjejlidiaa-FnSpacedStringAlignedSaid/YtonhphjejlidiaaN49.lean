/-
  The walks of the exported spacedString and spacedToken. Conditions: those in each theorem.
-/
import Derived.Test.YtonhphjejlidiaaN48
namespace Go.Proofs.Ytonhphjejlidiaa
set_option linter.unusedVariables false
open Go.Shelf Go.RowKit Go.Lib

set_option maxRecDepth 20000 in
set_option maxHeartbeats 8000000 in
theorem zz15 (kp single : Bool) (ind lev ln ws : Nat) (t s : ByteArray) (line col : Nat) (w : World) (hts : t.size ≤ 65536) (hss : s.size ≤ 65536) (hws : ws ≤ 2) (hlev : lev ≤ 18446744073709551615) (hln : ln ≤ 18446744073709551615) (h1 : line ≤ 262143) (h2 : col ≤ 16383) :
    Calls Try.prog 15 #[.agg (cfg false single kp ind lev ln ws t), .string s, .int .u64 line, .int .u64 col] w (ZSt w ([] ++ t.data.toList ++ List.replicate (padN kp (cfgF false single kp ind lev ln ws t) col) 32 ++ s.data.toList) { stepL kp (padF kp (cfgF false single kp ind lev ln ws t) col) s.data.toList with ws := 1 }) := by
  obtain ⟨lc, hor, hlc, hmod⟩ := or_pos line col h1 h2
  obtain ⟨f, hf⟩ : ∃ f, f = cfgF false single kp ind lev ln ws t := ⟨_, rfl⟩
  have ff := cfgF_facts false single kp ind lev ln ws t
  have fc := cfgF_col false single kp ind lev ln ws t
  rw [← hf] at ff fc ⊢
  obtain ⟨f1, f2, f3, f4, f5, f6, f7, f8⟩ := ff
  have p1 := padN_le kp f col
  have p2 := padF_col kp f col
  have e1 : t.data.toList.length = t.size := by simp
  have P54 := Lib.hid fun (B b k r p tw : Nat) (v : Value) (W : World) (hW : PS B b k r p tw kp ([] ++ t.data.toList) f v W) => pad54 B b k r p tw kp ([] ++ t.data.toList) f v lc col W hW f7 (fun e => by rw [(f8 e).1]; exact addL_pos _ _ (Nat.le_refl 1)) (by omega) (by omega) (by simp; omega) hlc hmod.symm
  have ST := Lib.hid (start3 w (.cells (cfg false single kp ind lev ln ws t) 25))
  have HF := Lib.hid hf
  obtain ⟨L, hL⟩ : ∃ L, L = [] ++ t.data.toList ++ List.replicate (padN kp f col) 32 ++ s.data.toList := ⟨_, rfl⟩
  obtain ⟨F2, hF2⟩ : ∃ F2, F2 = { stepL kp (padF kp f col) s.data.toList with ws := 1 } := ⟨_, rfl⟩
  have hFw : F2.ws = 1 := by rw [hF2]
  rw [← hL, ← hF2]
  have HL := Lib.hid hL
  have HF2 := Lib.hid hF2
  have HFW := Lib.hid hFw
  have B1 : Hid (([] ++ t.data.toList ++ List.replicate (padN kp f col) 32).length + s.size + 4096 ≤ 1073741824 ∧ (padF kp f col).col + s.size + 1 ≤ 1073741824 ∧ ([] ++ t.data.toList ++ List.replicate (padN kp f col) 32 ++ s.data.toList).length + 4096 ≤ 1073741824) := Lib.hid ⟨by simp; omega, by omega, by simp; omega⟩
  clear hL hF2 hFw f4 f5 f6 f7 f8 p1 p2 e1 fc hf
  have hl1 : (line : Int) ≤ 262143 := by omega
  have hc1 : (col : Int) ≤ 16383 := by omega
  unfold cfg
  unfold cfg at ST
  go_enter Try.func15, Try.ntmps15
  go_wp2_with (go_at_call 43; generalize hW0 : World.alloc (World.alloc w _) (.cells _ 27) = w0; have ST2 := ST.out; rw [hW0] at ST2; have S3 := Lib.hid ST2; clear ST2 ST hW0; rw [S3.out.ptr]; refine (print43 kp false single ind lev ln ws t w0 _ S3.out.buf S3.out.bel hts hws hlev hln).mono ?_; rintro e w1 ⟨k, r, p, tw, v, rfl, hp, hbl⟩; have O1 := Lib.hid (One.mk hp hbl); clear hp hbl; rw [← HF.out] at O1)
  go_wp2_with (go_at_call 45; refine (pos45 line col lc w1 h1 h2 hor).mono ?_; rintro e w2 ⟨rfl, hw2⟩; have O2 : Hid (One w0 k r p tw kp ([] ++ t.data.toList) f v w2) := Lib.hid (One.mk (by rw [hw2]; exact O1.out.ps.grew (fun i hi => Below.heap_alloc _ _ i hi)) (by rw [hw2]; exact O1.out.below.alloc O1.out.below.size _)); clear hw2 O1)
  go_wp2_with (go_at_call 47; refine (str47 w0.heap.size w0.heap.size k r p tw kp _ _ f _ v 0 lc s w2 O2.out.ps (P54.out _ _ _ _ _ _ _) B1.out.1 B1.out.2.1).mono ?_; rintro e w3 ⟨rfl, v3, t1, t2⟩; have O3 := Lib.hid (O2.out.step t1 t2); clear t1 t2 O2; rw [← HL.out, ← HF2.out] at O3)
  go_wp2_with (go_at_call 46; refine (done46 w0.heap.size w0.heap.size k r p tw kp _ _ v3 w3 O3.out.ps (by rw [HL.out]; exact B1.out.2.2) (by rw [HFW.out]; omega)).mono ?_; rintro e w4 ⟨rfl, v4, t1, t2⟩; have O4 := Lib.hid (O3.out.step t1 t2); clear t1 t2 O3; unfold outS; have hR := O4.out.below.block (w.heap.size + 1) (by have := S3.out.size; omega); rw [S3.out.res] at hR; have HZ := Lib.hid hR; have z0 := Lib.cell_of_heap hR 0; have z1 := Lib.cell_of_heap hR 1; have z2 := Lib.cell_of_heap hR 2; have z3 := Lib.cell_of_heap hR 3; have z4 := Lib.cell_of_heap hR 4; have z5 := Lib.cell_of_heap hR 5; have zf := Lib.frozen_of_heap hR; clear hR)
  have hF := put6 (W := w4) _ _ _ _ _ _ (.string ⟨L.toArray⟩) (.int .u64 F2.line) (.int .u64 F2.last) (.int .u8 F2.ws) (.bool F2.wn) (.bool F2.mn) HZ.out
  refine bodyPost_ret (v := outS L F2) ?_ rfl ⟨rfl, res_below S3.out.size S3.out.below O4.out.below ((((((Wr1.refl _ w4).set 0 _).set 1 _).set 2 _).set 3 _).set 4 _ |>.set 5 _)⟩
  simp [results, outS, Try.results15, go_sem, Lib.cell_of_heap hF]

set_option maxRecDepth 20000 in
set_option maxHeartbeats 8000000 in
theorem zz14 (kp single : Bool) (ind lev ln ws : Nat) (t s : ByteArray) (line col : Nat) (w : World) (hts : t.size ≤ 65536) (hss : s.size ≤ 65536) (hws : ws ≤ 2) (hlev : lev ≤ 18446744073709551615) (hln : ln ≤ 18446744073709551615) (h1 : line ≤ 262143) (h2 : col ≤ 16383) :
    Calls Try.prog 14 #[.agg (cfg false single kp ind lev ln ws t), .string s, .int .u64 line, .int .u64 col] w (ZSt w ([] ++ t.data.toList ++ List.replicate (padN kp (cfgF false single kp ind lev ln ws t) col) 32 ++ s.data.toList) { stepL kp (padF kp (cfgF false single kp ind lev ln ws t) col) s.data.toList with ws := 1 }) := by
  obtain ⟨lc, hor, hlc, hmod⟩ := or_pos line col h1 h2
  obtain ⟨f, hf⟩ : ∃ f, f = cfgF false single kp ind lev ln ws t := ⟨_, rfl⟩
  have ff := cfgF_facts false single kp ind lev ln ws t
  have fc := cfgF_col false single kp ind lev ln ws t
  rw [← hf] at ff fc ⊢
  obtain ⟨f1, f2, f3, f4, f5, f6, f7, f8⟩ := ff
  have p1 := padN_le kp f col
  have p2 := padF_col kp f col
  have e1 : t.data.toList.length = t.size := by simp
  have P54 := Lib.hid fun (B b k r p tw : Nat) (v : Value) (W : World) (hW : PS B b k r p tw kp ([] ++ t.data.toList) f v W) => pad54 B b k r p tw kp ([] ++ t.data.toList) f v lc col W hW f7 (fun e => by rw [(f8 e).1]; exact addL_pos _ _ (Nat.le_refl 1)) (by omega) (by omega) (by simp; omega) hlc hmod.symm
  have ST := Lib.hid (start3 w (.cells (cfg false single kp ind lev ln ws t) 25))
  have HF := Lib.hid hf
  obtain ⟨L, hL⟩ : ∃ L, L = [] ++ t.data.toList ++ List.replicate (padN kp f col) 32 ++ s.data.toList := ⟨_, rfl⟩
  obtain ⟨F2, hF2⟩ : ∃ F2, F2 = { stepL kp (padF kp f col) s.data.toList with ws := 1 } := ⟨_, rfl⟩
  have hFw : F2.ws = 1 := by rw [hF2]
  rw [← hL, ← hF2]
  have HL := Lib.hid hL
  have HF2 := Lib.hid hF2
  have HFW := Lib.hid hFw
  have B1 : Hid (([] ++ t.data.toList ++ List.replicate (padN kp f col) 32).length + s.size + 4096 ≤ 1073741824 ∧ (padF kp f col).col + s.size + 1 ≤ 1073741824 ∧ ([] ++ t.data.toList ++ List.replicate (padN kp f col) 32 ++ s.data.toList).length + 4096 ≤ 1073741824) := Lib.hid ⟨by simp; omega, by omega, by simp; omega⟩
  clear hL hF2 hFw f4 f5 f6 f7 f8 p1 p2 e1 fc hf
  have hl1 : (line : Int) ≤ 262143 := by omega
  have hc1 : (col : Int) ≤ 16383 := by omega
  unfold cfg
  unfold cfg at ST
  go_enter Try.func14, Try.ntmps14
  go_wp2_with (go_at_call 43; generalize hW0 : World.alloc (World.alloc w _) (.cells _ 27) = w0; have ST2 := ST.out; rw [hW0] at ST2; have S3 := Lib.hid ST2; clear ST2 ST hW0; rw [S3.out.ptr]; refine (print43 kp false single ind lev ln ws t w0 _ S3.out.buf S3.out.bel hts hws hlev hln).mono ?_; rintro e w1 ⟨k, r, p, tw, v, rfl, hp, hbl⟩; have O1 := Lib.hid (One.mk hp hbl); clear hp hbl; rw [← HF.out] at O1)
  go_wp2_with (go_at_call 45; refine (pos45 line col lc w1 h1 h2 hor).mono ?_; rintro e w2 ⟨rfl, hw2⟩; have O2 : Hid (One w0 k r p tw kp ([] ++ t.data.toList) f v w2) := Lib.hid (One.mk (by rw [hw2]; exact O1.out.ps.grew (fun i hi => Below.heap_alloc _ _ i hi)) (by rw [hw2]; exact O1.out.below.alloc O1.out.below.size _)); clear hw2 O1)
  go_wp2_with (go_at_call 44; refine (tok44 w0.heap.size w0.heap.size k r p tw kp _ _ f _ v 0 lc s w2 O2.out.ps f3 (P54.out _ _ _ _ _ _ _) B1.out.1 B1.out.2.1).mono ?_; rintro e w3 ⟨rfl, v3, t1, t2⟩; have O3 := Lib.hid (O2.out.step t1 t2); clear t1 t2 O2; rw [← HL.out, ← HF2.out] at O3)
  go_wp2_with (go_at_call 46; refine (done46 w0.heap.size w0.heap.size k r p tw kp _ _ v3 w3 O3.out.ps (by rw [HL.out]; exact B1.out.2.2) (by rw [HFW.out]; omega)).mono ?_; rintro e w4 ⟨rfl, v4, t1, t2⟩; have O4 := Lib.hid (O3.out.step t1 t2); clear t1 t2 O3; unfold outS; have hR := O4.out.below.block (w.heap.size + 1) (by have := S3.out.size; omega); rw [S3.out.res] at hR; have HZ := Lib.hid hR; have z0 := Lib.cell_of_heap hR 0; have z1 := Lib.cell_of_heap hR 1; have z2 := Lib.cell_of_heap hR 2; have z3 := Lib.cell_of_heap hR 3; have z4 := Lib.cell_of_heap hR 4; have z5 := Lib.cell_of_heap hR 5; have zf := Lib.frozen_of_heap hR; clear hR)
  have hF := put6 (W := w4) _ _ _ _ _ _ (.string ⟨L.toArray⟩) (.int .u64 F2.line) (.int .u64 F2.last) (.int .u8 F2.ws) (.bool F2.wn) (.bool F2.mn) HZ.out
  refine bodyPost_ret (v := outS L F2) ?_ rfl ⟨rfl, res_below S3.out.size S3.out.below O4.out.below ((((((Wr1.refl _ w4).set 0 _).set 1 _).set 2 _).set 3 _).set 4 _ |>.set 5 _)⟩
  simp [results, outS, Try.results14, go_sem, Lib.cell_of_heap hF]
end Go.Proofs.Ytonhphjejlidiaa
