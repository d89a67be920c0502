/-
  The walk of FnSpacedTokenAgreesString. Conditions: those in each theorem.
-/
import Derived.Test.YtonhphjejlidiaaN49
namespace Go.Proofs.Ytonhphjejlidiaa
set_option linter.unusedVariables false
open Go.Shelf Go.RowKit Go.Lib

theorem zz14c (kp : Bool) (ind ws : Nat) (t s : ByteArray) (line col : Nat) (w : World) (L : List UInt8) (F : PF) (hL : L = [] ++ t.data.toList ++ List.replicate (padN kp (cfgF false false kp ind 0 0 ws t) col) 32 ++ s.data.toList) (hF : F = { stepL kp (padF kp (cfgF false false kp ind 0 0 ws t) col) s.data.toList with ws := 1 }) (hts : t.size ≤ 65536) (hss : s.size ≤ 65536) (hws : ws ≤ 2) (h1 : line ≤ 262143) (h2 : col ≤ 16383) :
    Calls Try.prog 14 #[.agg #[.bool false, .bool false, .bool kp, .int .u64 ind, .int .u64 0, .int .u64 0, .int .u8 ws, .bool false, .bool false, .bool false, .string t], .string s, .int .u64 line, .int .u64 col] w (ZSt w L F) := by
  subst hL hF
  exact zz14 kp false ind 0 0 ws t s line col w hts hss hws (by omega) (by omega) h1 h2
theorem zz15c (kp : Bool) (ind ws : Nat) (t s : ByteArray) (line col : Nat) (w : World) (L : List UInt8) (F : PF) (hL : L = [] ++ t.data.toList ++ List.replicate (padN kp (cfgF false false kp ind 0 0 ws t) col) 32 ++ s.data.toList) (hF : F = { stepL kp (padF kp (cfgF false false kp ind 0 0 ws t) col) s.data.toList with ws := 1 }) (hts : t.size ≤ 65536) (hss : s.size ≤ 65536) (hws : ws ≤ 2) (h1 : line ≤ 262143) (h2 : col ≤ 16383) :
    Calls Try.prog 15 #[.agg #[.bool false, .bool false, .bool kp, .int .u64 ind, .int .u64 0, .int .u64 0, .int .u8 ws, .bool false, .bool false, .bool false, .string t], .string s, .int .u64 line, .int .u64 col] w (ZSt w L F) := by
  subst hL hF
  exact zz15 kp false ind 0 0 ws t s line col w hts hss hws (by omega) (by omega) h1 h2

set_option maxRecDepth 20000 in
set_option maxHeartbeats 8000000 in
theorem law3' (kp : Bool) (ind ws : Nat) (t s : ByteArray) (line col : Nat) (w : World) (hind : ind ≤ 18446744073709551615) (hws : ws ≤ 255) (hli : line ≤ 18446744073709551615) (hco : col ≤ 18446744073709551615) :
    Calls Try.prog 3 #[.bool kp, .int .u64 ind, .int .u8 ws, .string t, .string s, .int .u64 line, .int .u64 col] w fun e w' => e = .returned (.bool true) ∧ Below w.heap.size w w' := by
  have hwi : (ws : Int) ≤ 255 := by omega
  have hlii : (line : Int) ≤ 18446744073709551615 := by omega
  have hcoi : (col : Int) ≤ 18446744073709551615 := by omega
  by_cases c0 : (1048576 : Int) < (t.size : Int)
  · go_enter Try.func3, Try.ntmps3
    go_wp2_with (go_at_call 13; go_in)
    all_goals (go_ret; exact ⟨rfl, Below.refl _ _⟩)
  by_cases c1 : (1048576 : Int) < (s.size : Int)
  · go_enter Try.func3, Try.ntmps3
    go_wp2_with (go_at_call 13; go_in)
    all_goals (go_ret; exact ⟨rfl, Below.refl _ _⟩)
  by_cases c2 : (1048576 : Int) < (t.size : Int) + (s.size : Int)
  · go_enter Try.func3, Try.ntmps3
    go_wp2_with (go_at_call 13; go_in)
    all_goals (go_ret; exact ⟨rfl, Below.refl _ _⟩)
  by_cases c3 : (65536 : Int) < (t.size : Int)
  · go_enter Try.func3, Try.ntmps3
    go_wp2_with (go_at_call 13; go_in)
    all_goals (go_ret; exact ⟨rfl, Below.refl _ _⟩)
  by_cases c4 : (65536 : Int) < (s.size : Int)
  · go_enter Try.func3, Try.ntmps3
    go_wp2_with (go_at_call 13; go_in)
    all_goals (go_ret; exact ⟨rfl, Below.refl _ _⟩)
  by_cases c5 : (2 : Int) < (ws : Int)
  · go_enter Try.func3, Try.ntmps3
    go_wp2_with (go_at_call 13; go_in)
    all_goals (go_ret; exact ⟨rfl, Below.refl _ _⟩)
  by_cases c6 : (262143 : Int) < (line : Int)
  · go_enter Try.func3, Try.ntmps3
    go_wp2_with (go_at_call 13; go_in)
    all_goals (go_ret; exact ⟨rfl, Below.refl _ _⟩)
  by_cases c7 : (16383 : Int) < (col : Int)
  · go_enter Try.func3, Try.ntmps3
    go_wp2_with (go_at_call 13; go_in)
    all_goals (go_ret; exact ⟨rfl, Below.refl _ _⟩)
  have hss : s.size ≤ 65536 := by omega
  have hts : t.size ≤ 65536 := by omega
  obtain ⟨L, hL⟩ : ∃ L, L = [] ++ t.data.toList ++ List.replicate (padN kp (cfgF false false kp ind 0 0 ws t) col) 32 ++ s.data.toList := ⟨_, rfl⟩
  obtain ⟨F, hF⟩ : ∃ F, F = { stepL kp (padF kp (cfgF false false kp ind 0 0 ws t) col) s.data.toList with ws := 1 } := ⟨_, rfl⟩
  have Z4 := Lib.hid fun W => zz14c kp ind ws t s line col W L F hL hF hts hss (by omega) (by omega) (by omega)
  have Z5 := Lib.hid fun W => zz15c kp ind ws t s line col W L F hL hF hts hss (by omega) (by omega) (by omega)
  clear hL hF
  go_enter Try.func3, Try.ntmps3
  go_wp2_with (first | (go_at_call 13; go_in) | (go_at_call 14; refine (Z4.out _).mono ?_; rintro e w1 ⟨rfl, b1⟩; unfold outS; have g0 : ∀ x, (w1.alloc x).cell? ⟨w.heap.size, 0, none⟩ = some (.bool false) := (fun x => keepa x (((World.cell?_of_block (a := ⟨w.heap.size, 0, none⟩) (b1.block w.heap.size (by simp))).trans (new_cell w _ 25 0 _ rfl)).trans rfl)); have g1 : ∀ x, (w1.alloc x).cell? ⟨w.heap.size, 1, none⟩ = some (.bool false) := (fun x => keepa x (((World.cell?_of_block (a := ⟨w.heap.size, 1, none⟩) (b1.block w.heap.size (by simp))).trans (new_cell w _ 25 1 _ rfl)).trans rfl)); have g2 : ∀ x, (w1.alloc x).cell? ⟨w.heap.size, 2, none⟩ = some (.bool kp) := (fun x => keepa x (((World.cell?_of_block (a := ⟨w.heap.size, 2, none⟩) (b1.block w.heap.size (by simp))).trans (new_cell w _ 25 2 _ rfl)).trans rfl)); have g3 : ∀ x, (w1.alloc x).cell? ⟨w.heap.size, 3, none⟩ = some (.int .u64 ind) := (fun x => keepa x (((World.cell?_of_block (a := ⟨w.heap.size, 3, none⟩) (b1.block w.heap.size (by simp))).trans (new_cell w _ 25 3 _ rfl)).trans rfl)); have g4 : ∀ x, (w1.alloc x).cell? ⟨w.heap.size, 4, none⟩ = some (.int .u64 0) := (fun x => keepa x (((World.cell?_of_block (a := ⟨w.heap.size, 4, none⟩) (b1.block w.heap.size (by simp))).trans (new_cell w _ 25 4 _ rfl)).trans rfl)); have g5 : ∀ x, (w1.alloc x).cell? ⟨w.heap.size, 5, none⟩ = some (.int .u64 0) := (fun x => keepa x (((World.cell?_of_block (a := ⟨w.heap.size, 5, none⟩) (b1.block w.heap.size (by simp))).trans (new_cell w _ 25 5 _ rfl)).trans rfl)); have g6 : ∀ x, (w1.alloc x).cell? ⟨w.heap.size, 6, none⟩ = some (.int .u8 ws) := (fun x => keepa x (((World.cell?_of_block (a := ⟨w.heap.size, 6, none⟩) (b1.block w.heap.size (by simp))).trans (new_cell w _ 25 6 _ rfl)).trans rfl)); have g7 : ∀ x, (w1.alloc x).cell? ⟨w.heap.size, 7, none⟩ = some (.bool false) := (fun x => keepa x (((World.cell?_of_block (a := ⟨w.heap.size, 7, none⟩) (b1.block w.heap.size (by simp))).trans (new_cell w _ 25 7 _ rfl)).trans rfl)); have g8 : ∀ x, (w1.alloc x).cell? ⟨w.heap.size, 8, none⟩ = some (.bool false) := (fun x => keepa x (((World.cell?_of_block (a := ⟨w.heap.size, 8, none⟩) (b1.block w.heap.size (by simp))).trans (new_cell w _ 25 8 _ rfl)).trans rfl)); have g9 : ∀ x, (w1.alloc x).cell? ⟨w.heap.size, 9, none⟩ = some (.bool false) := (fun x => keepa x (((World.cell?_of_block (a := ⟨w.heap.size, 9, none⟩) (b1.block w.heap.size (by simp))).trans (new_cell w _ 25 9 _ rfl)).trans rfl)); have g10 : ∀ x, (w1.alloc x).cell? ⟨w.heap.size, 10, none⟩ = some (.string t) := (fun x => keepa x (((World.cell?_of_block (a := ⟨w.heap.size, 10, none⟩) (b1.block w.heap.size (by simp))).trans (new_cell w _ 25 10 _ rfl)).trans rfl)); have B1 := Lib.hid b1; clear b1 Z4) | (go_at_call 15; refine (Z5.out _).mono ?_; rintro e w2 ⟨rfl, b2⟩; unfold outS; have a0 : ∀ x, (w2.alloc x).cell? ⟨w1.heap.size, 0, none⟩ = some (.string ⟨L.toArray⟩) := (fun x => keepa x (((World.cell?_of_block (a := ⟨w1.heap.size, 0, none⟩) (b2.block w1.heap.size (by simp))).trans (new_cell w1 _ 27 0 _ rfl)).trans rfl)); have a1 : ∀ x, (w2.alloc x).cell? ⟨w1.heap.size, 1, none⟩ = some (.int .u64 F.line) := (fun x => keepa x (((World.cell?_of_block (a := ⟨w1.heap.size, 1, none⟩) (b2.block w1.heap.size (by simp))).trans (new_cell w1 _ 27 1 _ rfl)).trans rfl)); have a2 : ∀ x, (w2.alloc x).cell? ⟨w1.heap.size, 2, none⟩ = some (.int .u64 F.last) := (fun x => keepa x (((World.cell?_of_block (a := ⟨w1.heap.size, 2, none⟩) (b2.block w1.heap.size (by simp))).trans (new_cell w1 _ 27 2 _ rfl)).trans rfl)); have a3 : ∀ x, (w2.alloc x).cell? ⟨w1.heap.size, 3, none⟩ = some (.int .u8 F.ws) := (fun x => keepa x (((World.cell?_of_block (a := ⟨w1.heap.size, 3, none⟩) (b2.block w1.heap.size (by simp))).trans (new_cell w1 _ 27 3 _ rfl)).trans rfl)); have a4 : ∀ x, (w2.alloc x).cell? ⟨w1.heap.size, 4, none⟩ = some (.bool F.wn) := (fun x => keepa x (((World.cell?_of_block (a := ⟨w1.heap.size, 4, none⟩) (b2.block w1.heap.size (by simp))).trans (new_cell w1 _ 27 4 _ rfl)).trans rfl)); have a5 : ∀ x, (w2.alloc x).cell? ⟨w1.heap.size, 5, none⟩ = some (.bool F.mn) := (fun x => keepa x (((World.cell?_of_block (a := ⟨w1.heap.size, 5, none⟩) (b2.block w1.heap.size (by simp))).trans (new_cell w1 _ 27 5 _ rfl)).trans rfl)); have B2 := Lib.hid b2; clear b2 Z5 g0 g1 g2 g3 g4 g5 g6 g7 g8 g9 g10))
  go_ret
  refine ⟨rfl, ?_⟩
  have b1 := ((Below.refl w.heap.size w).alloc (Nat.le_refl _) _).trans (B1.out.mono (by simp))
  have b2 := (b1.alloc b1.size _).trans (B2.out.mono (by have := b1.size; simp; omega))
  exact b2.alloc b2.size _
theorem law3 (kp : Bool) (x1 x2 : Int) (t s : ByteArray) (x5 x6 : Int) (h1 : (Lit.int .u64 x1).wf = true) (h2 : (Lit.int .u8 x2).wf = true) (h5 : (Lit.int .u64 x5).wf = true) (h6 : (Lit.int .u64 x6).wf = true) (w : World) :
    Calls Try.prog 3 #[.bool kp, .int .u64 x1, .int .u8 x2, .string t, .string s, .int .u64 x5, .int .u64 x6] w fun e w' => e = .returned (.bool true) ∧ Below w.heap.size w w' := by
  obtain ⟨ind, rfl, ha⟩ := wf_u64 h1
  obtain ⟨ws, rfl, hb⟩ := wf_u8 h2
  obtain ⟨line, rfl, hc⟩ := wf_u64 h5
  obtain ⟨col, rfl, hd⟩ := wf_u64 h6
  exact law3' kp ind ws t s line col w ha hb hc hd
end Go.Proofs.Ytonhphjejlidiaa
