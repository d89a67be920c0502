/-
  The walk of FnListEnvironGetIsLastPairOfName. Conditions: those in each theorem.
-/
import Derived.Test.YthihppocokkoiaaDoorLw7
namespace Go.Proofs.YthihppocokkoiaaDoor
set_option linter.unusedVariables false
open Go.Shelf Go.RowKit Go.Lib Go.Sort

theorem env48 (v : Value) (P : List ByteArray) (w : World) (hv : Texts w v P) (hS : Small P) : Calls Tryd.prog 48 #[v] w (EnvOut w (P.map (·.data.toList))) := by
  have ENV := Lib.hid (env_any v P w hv (fun s hs => by have := small_mem hS s hs; omega) hS.1)
  clear hv hS
  go_enter Tryd.func48, Tryd.ntmps48
  go_wp2_with (first | (go_at_call 66; go_must (refine ENV.out.mono ?_); rintro e w2 ⟨sv, R, rfl, hE, hB2, hR⟩; have HI := Lib.hid (And.intro hE (And.intro hB2 hR)); clear hE hR hB2 ENV))
  go_ret
  exact ⟨sv, R, rfl, HI.out.1, HI.out.2.1, HI.out.2.2⟩


theorem eqAt_le (p : ByteArray) : Envp.eqAt p.data.toList ≤ (p.size : Int) := by
  have hl : p.data.toList.length = p.size := by simp
  by_cases c : 0 ≤ Envp.eqAt p.data.toList
  · have := (Envp.split_of (x := p.data.toList) (i := (Envp.eqAt p.data.toList).toNat) (by omega)).2.2
    omega
  · omega

set_option maxRecDepth 20000 in
set_option maxHeartbeats 1000000 in
theorem pairs39 (a : Option Addr) (c : Nat) (P : List ByteArray) (m : Int) (w : World) (hm : m = 1 ∨ m = 2) (hS : Small P) (hc : P ≠ [] → ∃ b off, a = some ⟨b, off, none⟩ ∧ ∀ j, j < P.length → w.cell? ⟨b, off + j, none⟩ = some (.string (P.getD j ByteArray.empty))) :
    Calls Tryd.prog 39 #[.slice a P.length c, .int .i64 m] w fun e w' => GuardSay True e ∧ w = w' := by
  have B := Lib.hid (fun x h0 h1 W => byte69 x m W (Or.inr hm) h0 h1)
  have hm0 : ¬ m = 0 := by omega
  have hp : (P.length : Int) ≤ 1048576 := by have := hS.1; omega
  have HP := Lib.hid hS.2
  clear hS hm
  go_enter Tryd.func39, Tryd.ntmps39
  go_wp2
  go_loop [5] (fun v5 => ∃ k : Nat, v5 = .int .i64 k ∧ (k : Int) ≤ (P.length : Int)) (fun v5 => P.length - (intOf v5).toNat)
  case atStart => exact ⟨0, rfl, by omega⟩
  case round =>
    obtain ⟨k, rfl, hk⟩ := hrel
    by_cases hlt : (k : Int) < (P.length : Int)
    · obtain ⟨bb, off, rfl, hcell⟩ := hc (by rintro rfl; simp at hlt; omega)
      have hx := hcell k (by omega)
      have hsz := HP.out k (by omega)
      obtain ⟨p, hp⟩ : ∃ p, p = P.getD k ByteArray.empty := ⟨_, rfl⟩
      rw [← hp] at hx hsz
      clear hc hcell hp
      have EQ := Lib.hid (eq68 p w (by omega))
      have hle := eqAt_le p
      generalize Envp.eqAt p.data.toList = ee at EQ hle
      go_wp2_with (first | (go_at_call 68; go_must (refine EQ.out.mono ?_); rintro e w' ⟨rfl, rfl⟩))
      go_loop [8] (fun v8 => ∃ j : Nat, v8 = .int .i64 j ∧ (j : Int) ≤ (p.size : Int)) (fun v8 => p.size - (intOf v8).toNat)
      case atStart => exact ⟨0, rfl, by omega⟩
      case round =>
        obtain ⟨j, rfl, hj⟩ := hrel
        by_cases hjl : (j : Int) < ee
        · have hj' : j < p.size := by omega
          have hb0 : (0 : Int) ≤ ((p[j].toNat : Nat) : Int) := by omega
          have hb1 : ((p[j].toNat : Nat) : Int) < 256 := by have := UInt8.toNat_lt p[j]; omega
          go_wp2_with (first | (go_at_call 69; go_must (refine (B.out _ hb0 hb1 _).mono ?_); rintro e w' ⟨⟨b, rfl, _⟩, rfl⟩))
          · go_ret
            exact ⟨gs_no rfl, rfl⟩
          · go_round
            case rel => exact ⟨j + 1, by go_num, by omega⟩
            case measure => simp [intOf]; omega
        · go_wp2
          go_round
          case rel => exact ⟨k + 1, by go_num, by omega⟩
          case measure => simp [intOf]; omega
    · clear hc
      go_wp2
      go_ret
      exact ⟨gs_yes rfl trivial, rfl⟩

set_option maxRecDepth 20000 in
set_option maxHeartbeats 2000000 in
theorem law8 (a : Option Addr) (c : Nat) (P : List ByteArray) (q : ByteArray) (w : World) (hv : Texts w (.slice a P.length c) P) :
    Calls Tryd.prog 8 #[.slice a P.length c, .string q] w fun e w' => e = .returned (.bool true) ∧ Below w.heap.size w w' := by
  have method_get : ∀ (sv : Value) (w : World), (method 342 97 (.agg #[.bool false, sv]) "Get").run Tryd.prog w = .ok (141, .agg #[.bool false, sv]) w := fun sv w => by kernel_rfl
  have B46 := Lib.hid (bytes47 a c P q w (texts_cells hv))
  have HV := Lib.hid hv
  clear hv
  go_enter Tryd.func8, Tryd.ntmps8
  go_wp2_with (first | (go_at_call 47; go_must (refine B46.out.mono ?_); rintro e w' ⟨⟨b, rfl, hb⟩, rfl⟩; have HB := Lib.hid hb; clear hb B46))
  · go_ret; exact ⟨rfl, Below.refl _ _⟩
  · go_ret; exact ⟨rfl, Below.refl _ _⟩
  have hb1 : (!b) = false := by assumption
  have hS := HB.out (by simpa using hb1)
  have HS := Lib.hid hS.1
  have hq : q.size ≤ 1048576 := hS.2
  clear HB hb1 hS
  refine (size38 a c P q.size w hq HS.out (texts_cells HV.out)).mono ?_
  rintro e w' ⟨⟨b2, rfl, _⟩, rfl⟩
  go_wp2_with (first | (go_at_call 39; go_must (refine (pairs39 a c P 1 w (Or.inl rfl) HS.out (texts_cells HV.out)).mono ?_); rintro e w' ⟨⟨b4, rfl, _⟩, rfl⟩) | (go_at_call 40; go_must (refine (name40 q 1 w (Or.inr (Or.inl rfl)) (by omega)).mono ?_); rintro e w' ⟨⟨b3, rfl, hb3⟩, rfl⟩; have HB3 := Lib.hid hb3; clear hb3))
  all_goals (try (go_ret; exact ⟨rfl, Below.refl _ _⟩))
  have hb3 : (!b3) = false := by assumption
  have H61 : Hid (NoEq q) := Lib.hid (HB3.out (by simpa using hb3))
  clear HB3 hb3
  refine (clone41 _ P w HV.out HS.out.1).mono ?_
  rintro e w1 ⟨⟨v', rfl, hT⟩, hB1⟩
  have ⟨a', c', hv', _⟩ := hT
  subst hv'
  have HT := Lib.hid hT
  have HB1 := Lib.hid hB1
  have hn : (P.length : Int) ≤ 1048576 := by have := HS.out.1; omega
  clear hT hB1 HV
  have hw1 : w.heap.size ≤ w1.heap.size := HB1.out.size
  have E48 := Lib.hid (fun (W : World) (hB : Below w1.heap.size w1 W) => env48 _ P W (texts_below HT.out hB) HS.out)
  have GET : Hid (∀ (sv : Value) (R : List (List UInt8)) (W : World) (B : Nat), Envp.Env (P.map (·.data.toList)) R ∧ RowAt W B sv R → Calls Tryd.prog 141 #[.agg #[.bool false, sv], .string q] W fun e w' => e = .returned (answer (Envp.look (P.map (·.data.toList)) q.data.toList) q.size) ∧ Below W.heap.size W w') :=
    Lib.hid fun sv R W B h => get_any _ R q W B sv h.1 h.2 (fun x hx => by
      obtain ⟨s, hs, rfl⟩ := List.mem_map.1 hx
      have := small_mem HS.out s hs
      rw [Array.length_toList]; show s.size ≤ _; omega) (by
      have h1 := env_length h.1
      have h2 := HS.out.1
      rw [List.length_map] at h1
      omega) (by omega) H61.out
  have M43 := Lib.hid (fun (W : World) (hB : Below w1.heap.size w1 W) => model43 a' c' P q W (texts_below HT.out hB) HS.out hq)
  cases HL : Envp.look (P.map (·.data.toList)) q.data.toList with
  | none =>
    rw [HL] at GET M43
    clear HL
    go_wp2_with (first | (go_at_call 48; go_must (refine (E48.out _ (Below.refl _ _)).mono ?_); rintro e w2 ⟨sv, R, rfl, hE, hB2, hR⟩; have HI := Lib.hid (And.intro hE hR); have HB2 := Lib.hid hB2; clear hE hR hB2 E48) | (go_at_call 141; go_must (refine (GET.out _ _ _ _ HI.out).mono ?_); rintro e w3 ⟨rfl, hB3⟩; have HB3 := Lib.hid (HB2.out.trans (hB3.mono HB2.out.size)); clear hB3 HB2 HI GET method_get; unfold answer zeroVar) | (go_at_call 43; go_must (refine (M43.out _ (HB3.out.alloc HB3.out.size _)).mono ?_); rintro e w5 ⟨hm, hB5⟩; obtain ⟨s5, rfl⟩ := model_none hm; have H0 : Hid (w5.heap[w3.heap.size]? = some (.cells #[.bool false, .bool false, .bool false, .bool false, .int .u8 0, .string ⟨#[]⟩, .slice none 0 0, .map none, .slice none 0 0] 34)) := Lib.hid ((hB5.block w3.heap.size (by simp)).trans (by show (w3.heap.push _)[w3.heap.size]? = _; exact Array.getElem?_push_size)); have r0 : w5.cell? ⟨w3.heap.size, 0, none⟩ = some (.bool false) := cell_heap H0.out 0 _ rfl; have r1 : w5.cell? ⟨w3.heap.size, 1, none⟩ = some (.bool false) := cell_heap H0.out 1 _ rfl; have r2 : w5.cell? ⟨w3.heap.size, 2, none⟩ = some (.bool false) := cell_heap H0.out 2 _ rfl; have r3 : w5.cell? ⟨w3.heap.size, 3, none⟩ = some (.bool false) := cell_heap H0.out 3 _ rfl; have r4 : w5.cell? ⟨w3.heap.size, 4, none⟩ = some (.int .u8 0) := cell_heap H0.out 4 _ rfl; have r5 : w5.cell? ⟨w3.heap.size, 5, none⟩ = some (.string ⟨#[]⟩) := cell_heap H0.out 5 _ rfl; have r6 : w5.cell? ⟨w3.heap.size, 6, none⟩ = some (.slice none 0 0) := cell_heap H0.out 6 _ rfl; have r7 : w5.cell? ⟨w3.heap.size, 7, none⟩ = some (.map none) := cell_heap H0.out 7 _ rfl; have r8 : w5.cell? ⟨w3.heap.size, 8, none⟩ = some (.slice none 0 0) := cell_heap H0.out 8 _ rfl; have HB5 := Lib.hid ((HB3.out.alloc HB3.out.size _).trans (hB5.mono (HB3.out.alloc HB3.out.size _).size)); clear hB5 HB3 H0 M43) | (go_at_call 44; go_must (refine (zero44 _).mono ?_); rintro e w6 ⟨rfl, hB6⟩; have HB6 := Lib.hid (HB5.out.trans (hB6.mono HB5.out.size)); clear hB6 HB5))
    go_ret
    exact ⟨rfl, HB1.out.trans (HB6.out.mono hw1)⟩
  | some x =>
    rw [HL] at GET M43
    clear HL
    obtain ⟨xs, hxs⟩ : ∃ xs, xs = (⟨x.toArray⟩ : ByteArray).extract (q.size + 1) (⟨x.toArray⟩ : ByteArray).size := ⟨_, rfl⟩
    have HX := Lib.hid hxs
    have M43' : Hid (∀ (W : World), Below w1.heap.size w1 W → Calls Tryd.prog 43 #[.slice a' P.length c', .string q, .bool false] W fun e w' => e = .returned (.tuple #[.string xs, .bool true]) ∧ Below W.heap.size W w') := Lib.hid fun W hB => (M43.out W hB).mono fun e w' h => ⟨by rw [HX.out]; exact model_some h.1, h.2⟩
    have GET' : Hid (∀ (sv : Value) (R : List (List UInt8)) (W : World) (B : Nat), Envp.Env (P.map (·.data.toList)) R ∧ RowAt W B sv R → Calls Tryd.prog 141 #[.agg #[.bool false, sv], .string q] W fun e w' => e = .returned (strVar xs) ∧ Below W.heap.size W w') := Lib.hid fun sv R W B h => (GET.out sv R W B h).mono fun e w' h => ⟨by rw [HX.out]; exact h.1, h.2⟩
    clear GET M43 HX hxs
    go_wp2_with (first | (go_at_call 48; go_must (refine (E48.out _ (Below.refl _ _)).mono ?_); rintro e w2 ⟨sv, R, rfl, hE, hB2, hR⟩; have HI := Lib.hid (And.intro hE hR); have HB2 := Lib.hid hB2; clear hE hR hB2 E48) | (go_at_call 141; go_must (refine (GET'.out _ _ _ _ HI.out).mono ?_); rintro e w3 ⟨rfl, hB3⟩; have HB3 := Lib.hid (HB2.out.trans (hB3.mono HB2.out.size)); clear hB3 HB2 HI GET' method_get; unfold strVar) | (go_at_call 43; go_must (refine (M43'.out _ (HB3.out.alloc HB3.out.size _)).mono ?_); rintro e w5 ⟨rfl, hB5⟩; have H0 : Hid (w5.heap[w3.heap.size]? = some (.cells #[.bool true, .bool false, .bool true, .bool false, .int .u8 1, .string xs, .slice none 0 0, .map none, .slice none 0 0] 34)) := Lib.hid ((hB5.block w3.heap.size (by simp)).trans (by show (w3.heap.push _)[w3.heap.size]? = _; exact Array.getElem?_push_size)); have r0 : w5.cell? ⟨w3.heap.size, 0, none⟩ = some (.bool true) := cell_heap H0.out 0 _ rfl; have r1 : w5.cell? ⟨w3.heap.size, 1, none⟩ = some (.bool false) := cell_heap H0.out 1 _ rfl; have r2 : w5.cell? ⟨w3.heap.size, 2, none⟩ = some (.bool true) := cell_heap H0.out 2 _ rfl; have r3 : w5.cell? ⟨w3.heap.size, 3, none⟩ = some (.bool false) := cell_heap H0.out 3 _ rfl; have r4 : w5.cell? ⟨w3.heap.size, 4, none⟩ = some (.int .u8 1) := cell_heap H0.out 4 _ rfl; have r5 : w5.cell? ⟨w3.heap.size, 5, none⟩ = some (.string xs) := cell_heap H0.out 5 _ rfl; have r6 : w5.cell? ⟨w3.heap.size, 6, none⟩ = some (.slice none 0 0) := cell_heap H0.out 6 _ rfl; have r7 : w5.cell? ⟨w3.heap.size, 7, none⟩ = some (.map none) := cell_heap H0.out 7 _ rfl; have r8 : w5.cell? ⟨w3.heap.size, 8, none⟩ = some (.slice none 0 0) := cell_heap H0.out 8 _ rfl; have HB5 := Lib.hid ((HB3.out.alloc HB3.out.size _).trans (hB5.mono (HB3.out.alloc HB3.out.size _).size)); clear hB5 HB3 H0 M43') | (go_at_call 45; go_must (refine (str45 _ _).mono ?_); rintro e w6 ⟨rfl, hB6⟩; have HB6 := Lib.hid (HB5.out.trans (hB6.mono HB5.out.size)); clear hB6 HB5))
    go_ret
    exact ⟨rfl, HB1.out.trans (HB6.out.mono hw1)⟩
end Go.Proofs.YthihppocokkoiaaDoor

