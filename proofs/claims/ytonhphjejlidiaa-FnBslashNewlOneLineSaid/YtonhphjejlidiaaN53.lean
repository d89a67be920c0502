/-
  The walk of the exported bslashNewl. Conditions: those in each theorem.
-/
import Derived.Test.YtonhphjejlidiaaN52
namespace Go.Proofs.Ytonhphjejlidiaa
set_option linter.unusedVariables false
open Go.Shelf Go.RowKit Go.Lib

/-- the text behind the prefix, and the fields -/
def bslL (kp : Bool) (f : PF) : List UInt8 := List.replicate (padK f) 32 ++ [92, 10] ++ indL (bslF kp f)
theorem indL_len (f : PF) (h1 : f.level ≤ 65536) (h2 : f.ind * f.level ≤ 65536) : (indL f).length ≤ 65538 := by
  unfold indL
  split
  · simp
  · split
    · simp
    · split
      · simp; omega
      · simp; omega

set_option maxRecDepth 20000 in
set_option maxHeartbeats 8000000 in
theorem zz40 (mini kp : Bool) (ind lev ln ws : Nat) (t : ByteArray) (w : World) (hts : t.size ≤ 65536) (hws : ws ≤ 2) (hlev : lev ≤ 65536) (hind : ind ≤ 65536) (hmul : ind * lev ≤ 65536) (hln : ln ≤ 2147483648) :
    Calls Try.prog 40 #[.agg (cfg mini false kp ind lev ln ws t)] w (ZSt w ([] ++ t.data.toList ++ bslL kp (cfgF mini false kp ind lev ln ws t)) (indF kp (bslF kp (cfgF mini false kp ind lev ln ws t)))) := by
  obtain ⟨f, hf⟩ : ∃ f, f = cfgF mini false kp ind lev ln ws t := ⟨_, rfl⟩
  have ff := cfgF_facts mini false kp ind lev ln ws t
  have fc := cfgF_col mini false kp ind lev ln ws t
  rw [← hf] at ff fc ⊢
  obtain ⟨f1, f2, f3, f4, f5, f6, f7, f8⟩ := ff
  have e1 : t.data.toList.length = t.size := by simp
  have BS := Lib.hid fun (B b k r p tw : Nat) (v : Value) (W : World) (hW : PS B b k r p tw kp ([] ++ t.data.toList) f v W) => bsl59 B b k r p tw kp ([] ++ t.data.toList) f v W hW (by omega) (by omega) (by omega) (by omega) (by rw [f2, f5]; exact hmul) (by simp; omega) (by omega)
  have ST := Lib.hid (start3 w (.cells (cfg mini false kp ind lev ln ws t) 25))
  have HF := Lib.hid hf
  obtain ⟨L, hL⟩ : ∃ L, L = [] ++ t.data.toList ++ bslL kp f := ⟨_, rfl⟩
  obtain ⟨F2, hF2⟩ : ∃ F2, F2 = indF kp (bslF kp f) := ⟨_, rfl⟩
  have hL2 : [] ++ t.data.toList ++ List.replicate (padK f) 32 ++ [92, 10] ++ indL (bslF kp f) = L := by rw [hL]; unfold bslL; simp
  have hwse : F2.ws ≤ 2 := by rw [hF2]; exact indF_ws kp f (by omega)
  have hLl : L.length + 4096 ≤ 1073741824 := by
    have h1 := indL_len (bslF kp f) (by rw [(bslF_facts kp f).1, f5]; exact hlev) (by rw [(bslF_facts kp f).1, (bslF_facts kp f).2.1, f2, f5]; exact hmul)
    have h2 := padK_le f
    rw [hL]; unfold bslL; simp; omega
  rw [← hL, ← hF2]
  have HL := Lib.hid hL2
  have HF2 := Lib.hid hF2
  have HWS := Lib.hid hwse
  have HLL := Lib.hid hLl
  have hlev2 : lev ≤ 18446744073709551615 := by omega
  have hln2 : ln ≤ 18446744073709551615 := by omega
  clear hL hL2 hF2 hwse hLl f1 f2 f3 f4 f5 f6 f7 f8 e1 fc hf hlev hind hmul hln
  unfold cfg
  unfold cfg at ST
  go_enter Try.func40, Try.ntmps40
  go_wp2_with (go_at_call 43; generalize hW0 : World.alloc (World.alloc w _) (.cells _ 27) = w0; have ST2 := ST.out; rw [hW0] at ST2; have S3 := Lib.hid ST2; clear ST2 ST hW0; rw [S3.out.ptr]; refine (print43 kp mini false ind lev ln ws t w0 _ S3.out.buf S3.out.bel hts hws hlev2 hln2).mono ?_; rintro e w1 ⟨k, r, p, tw, v, rfl, hp, hbl⟩; have O1 := Lib.hid (One.mk hp hbl); clear hp hbl; rw [← HF.out] at O1)
  go_wp2_with (go_at_call 59; refine (BS.out w0.heap.size w0.heap.size k r p tw v w1 O1.out.ps).mono ?_; rintro e w3 ⟨rfl, v3, t1, t2⟩; have O3 := Lib.hid (O1.out.step t1 t2); clear t1 t2 O1; rw [HL.out, ← HF2.out] at O3)
  go_wp2_with (go_at_call 46; refine (done46 w0.heap.size w0.heap.size k r p tw kp _ _ v3 w3 O3.out.ps HLL.out HWS.out).mono ?_; rintro e w4 ⟨rfl, v4, t1, t2⟩; have O4 := Lib.hid (O3.out.step t1 t2); clear t1 t2 O3; unfold outS; have hR := O4.out.below.block (w.heap.size + 1) (by have := S3.out.size; omega); rw [S3.out.res] at hR; have HZ := Lib.hid hR; have z0 := Lib.cell_of_heap hR 0; have z1 := Lib.cell_of_heap hR 1; have z2 := Lib.cell_of_heap hR 2; have z3 := Lib.cell_of_heap hR 3; have z4 := Lib.cell_of_heap hR 4; have z5 := Lib.cell_of_heap hR 5; have zf := Lib.frozen_of_heap hR; clear hR)
  have hF := put6 (W := w4) _ _ _ _ _ _ (.string ⟨L.toArray⟩) (.int .u64 F2.line) (.int .u64 F2.last) (.int .u8 F2.ws) (.bool F2.wn) (.bool F2.mn) HZ.out
  refine bodyPost_ret (v := outS L F2) ?_ rfl ⟨rfl, res_below S3.out.size S3.out.below O4.out.below ((((((Wr1.refl _ w4).set 0 _).set 1 _).set 2 _).set 3 _).set 4 _ |>.set 5 _)⟩
  simp [results, outS, Try.results40, go_sem, Lib.cell_of_heap hF]
end Go.Proofs.Ytonhphjejlidiaa
