/-
  The walk of NewPrinter with four options and of the options' makers. Conditions: those in each theorem.
-/
import Derived.Test.YtonhphjejlidiaaNs
import Derived.Test.YtonhphjejlidiaaTw
import Derived.Deep.RegionHeld3
namespace Go.Proofs.Ytonhphjejlidiaa
set_option linter.unusedVariables false
open Go.Shelf Go.RowKit Go.Lib

/-- what an option's maker hands back -/
def Opt (f : Nat) (o : Obj) (w : World) (e : Ending) (w' : World) : Prop := e = .returned (.func (.func f) #[] #[.pointer (some ⟨w.heap.size, 0, none⟩)]) ∧ w' = w.alloc o
theorem mk60 (m : Bool) (w : World) : Calls Try.prog 60 #[.bool m] w (Opt 71 (.cells #[.bool m] 4) w) := by
  go_enter Try.func60, Try.ntmps60
  go_wp2
  go_ret
  exact ⟨rfl, rfl⟩
theorem mk61 (m : Bool) (w : World) : Calls Try.prog 61 #[.bool m] w (Opt 72 (.cells #[.bool m] 4) w) := by
  go_enter Try.func61, Try.ntmps61
  go_wp2
  go_ret
  exact ⟨rfl, rfl⟩
theorem mk49 (m : Nat) (w : World) : Calls Try.prog 49 #[.int .u64 m] w (Opt 63 (.cells #[.int .u64 m] 22) w) := by
  go_enter Try.func49, Try.ntmps49
  go_wp2
  go_ret
  exact ⟨rfl, rfl⟩
theorem mk50 (m : Bool) (w : World) : Calls Try.prog 50 #[.bool m] w (Opt 64 (.cells #[.bool m] 4) w) := by
  go_enter Try.func50, Try.ntmps50
  go_wp2
  go_ret
  exact ⟨rfl, rfl⟩

theorem keepa {W : World} {a : Addr} {x : Value} (o : Obj) (h : W.cell? a = some x) : (W.alloc o).cell? a = some x :=
  (World.cell?_of_block (Below.heap_alloc W o a.block (World.block_lt_of_cell? W a h))).trans h

set_option maxRecDepth 20000 in
set_option maxHeartbeats 16000000 in
theorem new48q (o b1 b2 bi bk ind c : Nat) (mini single kp : Bool) (w : World) (h0 : w.cell? ⟨o, 0, none⟩ = some (.func (.func 71) #[] #[.pointer (some ⟨b1, 0, none⟩)])) (h1 : w.cell? ⟨o, 1, none⟩ = some (.func (.func 72) #[] #[.pointer (some ⟨b2, 0, none⟩)]))
    (h2 : w.cell? ⟨o, 2, none⟩ = some (.func (.func 63) #[] #[.pointer (some ⟨bi, 0, none⟩)])) (h3 : w.cell? ⟨o, 3, none⟩ = some (.func (.func 64) #[] #[.pointer (some ⟨bk, 0, none⟩)]))
    (hb1 : w.cell? ⟨b1, 0, none⟩ = some (.bool mini)) (hb2 : w.cell? ⟨b2, 0, none⟩ = some (.bool single)) (hbi : w.cell? ⟨bi, 0, none⟩ = some (.int .u64 ind)) (hbk : w.cell? ⟨bk, 0, none⟩ = some (.bool kp)) :
    Calls Try.prog 48 #[.slice (some ⟨o, 0, none⟩) 4 c] w fun e w' => e = .returned (.pointer (some ⟨w.heap.size + 3, 0, none⟩)) ∧ NewP w kp { zeroF with mini := mini, single := single, ind := ind } (w.heap.size + 1) w.heap.size (w.heap.size + 3) (w.heap.size + 2) w' := by
  go_enter Try.func48, Try.ntmps48
  go_wp2_with (go_at_call 62; refine (writer62 w).mono ?_; rintro e w1 ⟨rfl, hF⟩; have HF := Lib.hid hF; clear hF)
  generalize hW : World.alloc (World.alloc w1 _) _ = W2
  obtain ⟨hs1, hN⟩ := new_laid w w1 W2 HF.out _ hW
  have N1 := Lib.hid hN
  clear hW hN HF
  have hs2 : w1.heap.size + 1 = w.heap.size + 3 := by omega
  rw [hs2, hs1]
  have kc := fun (W : World) (kp : Bool) (f : PF) (H : NewP w kp f (w.heap.size + 1) w.heap.size (w.heap.size + 3) (w.heap.size + 2) W) => And.intro (And.intro (H.cell h0) (And.intro (H.cell h1) (And.intro (H.cell h2) (H.cell h3)))) (And.intro (H.cell hb1) (And.intro (H.cell hb2) (And.intro (H.cell hbi) (H.cell hbk))))
  have KC := Lib.hid kc
  have hbkp : bk ≠ w.heap.size + 3 := by have := World.block_lt_of_cell? w _ hbk; simp only at this; omega
  obtain ⟨⟨d0, d1, d2, d3⟩, db1, db2, dbi, dbk⟩ := KC.out _ _ _ N1.out
  clear kc h0 h1 h2 h3 hb1 hb2 hbi hbk hs1 hs2
  refine wp_loop_rounds 5 ?_
  rw [rounds_succ]
  go_wp2_with (go_at_call 71; refine (mini71 false (w.heap.size + 1) (w.heap.size + 3) (w.heap.size + 2) b1 mini zeroF _ N1.out.pr db1).mono ?_; rintro e w3 ⟨rfl, t1, t2⟩; have N2 := Lib.hid (N1.out.turn t1 t2); clear t1 t2 N1 d0 d1 d2 d3 db1 db2 dbi dbk)
  obtain ⟨⟨d0, d1, d2, d3⟩, db1, db2, dbi, dbk⟩ := KC.out _ _ _ N2.out
  rw [rounds_succ]
  go_wp2_with (go_at_call 72; refine (single72 false (w.heap.size + 1) (w.heap.size + 3) (w.heap.size + 2) b2 single { zeroF with mini := mini } _ N2.out.pr db2).mono ?_; rintro e w4 ⟨rfl, t1, t2⟩; have N3 := Lib.hid (N2.out.turn t1 t2); clear t1 t2 N2 d0 d1 d2 d3 db1 db2 dbi dbk)
  obtain ⟨⟨d0, d1, d2, d3⟩, db1, db2, dbi, dbk⟩ := KC.out _ _ _ N3.out
  rw [rounds_succ]
  go_wp2_with (go_at_call 63; refine (ind63 false (w.heap.size + 1) (w.heap.size + 3) (w.heap.size + 2) bi ind { zeroF with mini := mini, single := single } _ N3.out.pr dbi).mono ?_; rintro e w5 ⟨rfl, t1, t2⟩; have N4 := Lib.hid (N3.out.turn t1 t2); clear t1 t2 N3 d0 d1 d2 d3 db1 db2 dbi dbk)
  obtain ⟨⟨d0, d1, d2, d3⟩, db1, db2, dbi, dbk⟩ := KC.out _ _ _ N4.out
  rw [rounds_succ]
  go_wp2_with (go_at_call 64; refine (keep64 (w.heap.size + 1) (w.heap.size + 3) (w.heap.size + 2) bk kp { zeroF with mini := mini, single := single, ind := ind } _ N4.out.pr dbk hbkp).mono ?_; rintro e w6 ⟨rfl, t1, t2⟩; have N5 := Lib.hid (N4.out.turn t1 t2); clear t1 t2 N4 d0 d1 d2 d3 db1 db2 dbi dbk)
  rw [rounds_succ]
  go_wp2
  go_ret
  exact ⟨rfl, N5.out⟩
end Go.Proofs.Ytonhphjejlidiaa
