/-
  The helpers of FnListEnvironCaseInsensitiveGetFoldsASCII: the bytes' bound, zzByteOK, zzNameOK and zzPairsOK at ASCII, zzUpperASCII, zzNameEq and zzModelGet with folding (printed by gen6.py). Conditions: those in each theorem.
-/
import Derived.Test.YthihppocokkoiaaDoorLwG
import Derived.Test.YthihppocokkoiaaDoorGetAT
namespace Go.Proofs.YthihppocokkoiaaDoor
set_option linter.unusedVariables false
open Go.Shelf Go.RowKit Go.Lib Go.Sort

set_option maxHeartbeats 1000000 in
theorem bytes37 (a : Option Addr) (c : Nat) (P : List ByteArray) (q : ByteArray) (w : World) (hc : P ≠ [] → ∃ b off, a = some ⟨b, off, none⟩ ∧ ∀ j, j < P.length → w.cell? ⟨b, off + j, none⟩ = some (.string (P.getD j ByteArray.empty))) :
    Calls Tryd.prog 37 #[.slice a P.length c, .string q] w fun e w' => GuardSay (Small P ∧ q.size ≤ 1048576) e ∧ w = w' := by
  go_enter Tryd.func37, Tryd.ntmps37
  by_cases hn : (1048576 : Int) < (P.length : Int)
  · go_wp2
    go_ret
    exact ⟨gs_no rfl, rfl⟩
  · go_wp2
    go_loop [5, 6] (fun v5 v6 => ∃ t k : Nat, v5 = .int .i64 t ∧ v6 = .int .i64 k ∧ (t : Int) ≤ 1048576 ∧ (k : Int) ≤ (P.length : Int) ∧ Hid (∀ j, j < k → (P.getD j ByteArray.empty).size ≤ 1048576)) (fun v5 v6 => P.length - (intOf v6).toNat)
    case atStart => exact ⟨P.length, 0, rfl, rfl, by omega, by omega, Lib.hid fun j hj => by omega⟩
    case round =>
      obtain ⟨t, k, rfl, rfl, ht, hk, HS⟩ := hrel
      by_cases hlt : (k : Int) < (P.length : Int)
      · obtain ⟨b, off, rfl, hcell⟩ := hc (by rintro rfl; simp at hlt; omega)
        have hx := hcell k (by omega)
        obtain ⟨s, hs⟩ : ∃ s, s = P.getD k ByteArray.empty := ⟨_, rfl⟩
        rw [← hs] at hx
        have HS2 : Hid (s.size ≤ 1048576 → ∀ j, j < k + 1 → (P.getD j ByteArray.empty).size ≤ 1048576) := Lib.hid fun h j hj => by
          by_cases e : j = k
          · subst e; rw [← hs]; exact h
          · exact HS.out j (by omega)
        clear hc hcell hs
        by_cases c1 : (1048576 : Int) < (s.size : Int)
        · go_wp2
          go_ret
          exact ⟨gs_no rfl, rfl⟩
        · by_cases c2 : (1048576 : Int) < (t : Int) + (s.size : Int)
          · go_wp2
            go_ret
            exact ⟨gs_no rfl, rfl⟩
          · go_wp2
            go_round
            case rel => exact ⟨t + s.size, k + 1, by go_num, by go_num, by omega, by omega, Lib.hid (HS2.out (by omega))⟩
            case measure => simp [intOf]; omega
      · have HF : Hid (Small P) := Lib.hid ⟨by omega, fun j hj => HS.out j (by omega)⟩
        clear hc
        by_cases c1 : (1048576 : Int) < (q.size : Int)
        · go_wp2
          go_ret
          exact ⟨gs_no rfl, rfl⟩
        · by_cases c2 : (1048576 : Int) < (t : Int) + (q.size : Int)
          · go_wp2
            go_ret
            exact ⟨gs_no rfl, rfl⟩
          · go_wp2
            go_ret
            exact ⟨gs_yes rfl ⟨HF.out, by omega⟩, rfl⟩


theorem model_none {q : ByteArray} {e : Ending} (h : ModelOut q none e) : ∃ s, e = .returned (.tuple #[.string s, .bool false]) := by
  obtain ⟨b, s, he, hf⟩ := h
  have : b = false := hf
  subst this
  exact ⟨s, he⟩
theorem model_some {q : ByteArray} {x : List UInt8} {e : Ending} (h : ModelOut q (some x) e) : e = .returned (.tuple #[.string ((⟨x.toArray⟩ : ByteArray).extract (q.size + 1) (⟨x.toArray⟩ : ByteArray).size), .bool true]) := by
  obtain ⟨b, s, he, hf⟩ := h
  obtain ⟨rfl, rfl⟩ : b = true ∧ s = (⟨x.toArray⟩ : ByteArray).extract (q.size + 1) (⟨x.toArray⟩ : ByteArray).size := hf
  exact he

theorem eqAt_le (p : ByteArray) : Envp.eqAt p.data.toList ≤ (p.size : Int) := by
  have hl : p.data.toList.length = p.size := by simp
  by_cases c : 0 ≤ Envp.eqAt p.data.toList
  · have := (Envp.split_of (x := p.data.toList) (i := (Envp.eqAt p.data.toList).toNat) (by omega)).2.2
    omega
  · omega

theorem byte69a (x : Int) (w : World) (h0 : 0 ≤ x) (h1 : x < 256) : Calls Tryd.prog 69 #[.int .u8 x, .int .i64 2] w fun e w' => GuardSay (x < 128) e ∧ w = w' := by
  by_cases c : x < 128
  · go_enter Tryd.func69, Tryd.ntmps69
    go_wp2
    go_ret
    exact ⟨⟨_, rfl, fun _ => c⟩, rfl⟩
  · go_enter Tryd.func69, Tryd.ntmps69
    go_wp2
    go_ret
    exact ⟨gs_no rfl, rfl⟩

/-- every byte is ASCII -/
def Asc (s : ByteArray) : Prop := ∀ b ∈ s.data.toList, b.toNat < 128
theorem asc_step (s : ByteArray) (k : Nat) (hk : k < s.size) (c : ((s[k].toNat : Nat) : Int) < 128) (h : ∀ j, j < k → ∀ b, s.data.toList[j]? = some b → b.toNat < 128) : ∀ j, j < k + 1 → ∀ b, s.data.toList[j]? = some b → b.toNat < 128 := by
  intro j hj b hb
  by_cases e : j = k
  · subst e
    rw [Lib.data_getElem? s j hk] at hb
    cases hb
    omega
  · exact h j (by omega) b hb
theorem asc_end (s : ByteArray) (h : ∀ j, j < s.size → ∀ b, s.data.toList[j]? = some b → b.toNat < 128) : Asc s := by
  intro b hb
  obtain ⟨i, hi, hx⟩ := List.mem_iff_getElem.1 hb
  have hl : s.data.toList.length = s.size := by simp
  exact h i (by omega) b (by rw [List.getElem?_eq_getElem hi, hx])
theorem asc_key (x : List UInt8) (h : ∀ j : Nat, (j : Int) < Envp.eqAt x → ∀ b, x[j]? = some b → b.toNat < 128) : AsciiKey x := by
  intro b hb
  rcases index_key x with ⟨_, h2⟩ | ⟨i, h1, h2, _, _, h5⟩
  · rw [h2] at hb; cases hb
  · rw [h2] at hb
    rcases List.mem_append.1 hb with hb | hb
    · obtain ⟨j, hj, hx⟩ := List.mem_iff_getElem.1 hb
      rw [List.length_take] at hj
      rw [List.getElem_take] at hx
      exact h j (by omega) b (by rw [List.getElem?_eq_getElem (by omega), hx])
    · rw [List.mem_singleton] at hb
      subst hb
      decide

set_option maxRecDepth 20000 in
set_option maxHeartbeats 1000000 in
theorem name40a (s : ByteArray) (w : World) (hs : s.size ≤ 1073741824) : Calls Tryd.prog 40 #[.string s, .int .i64 2] w fun e w' => GuardSay (NoEq s ∧ Asc s) e ∧ w = w' := by
  have B := Lib.hid (fun x h0 h1 W => byte69a x W h0 h1)
  go_enter Tryd.func40, Tryd.ntmps40
  go_wp2
  go_loop [5] (fun v5 => ∃ k : Nat, v5 = .int .i64 k ∧ (k : Int) ≤ (s.size : Int) ∧ Hid (∀ j, j < k → s.data.toList[j]? ≠ some 61) ∧ Hid (∀ j, j < k → ∀ b, s.data.toList[j]? = some b → b.toNat < 128)) (fun v5 => s.size - (intOf v5).toNat)
  case atStart => exact ⟨0, rfl, by omega, Lib.hid fun j hj => by omega, Lib.hid fun j hj => by omega⟩
  case round =>
    obtain ⟨k, rfl, hk, HF, HA⟩ := hrel
    by_cases hlt : (k : Int) < (s.size : Int)
    · have hk' : k < s.size := by omega
      by_cases c : s[k] = 61
      · have c' : ((s[k].toNat : Nat) : Int) = 61 := by rw [c]; rfl
        clear c
        go_wp2
        go_ret
        exact ⟨gs_no rfl, rfl⟩
      · have HF2 := Lib.hid (ib_step s k hk' c HF.out)
        have HA2 := Lib.hid (fun h => asc_step s k hk' h HA.out)
        have c' : ¬ ((s[k].toNat : Nat) : Int) = 61 := fun h => c (Lib.byte_eq_of_toNat h)
        have hb0 : (0 : Int) ≤ ((s[k].toNat : Nat) : Int) := by omega
        have hb1 : ((s[k].toNat : Nat) : Int) < 256 := by have := UInt8.toNat_lt s[k]; omega
        clear c
        go_wp2_with (first | (go_at_call 69; go_must (refine (B.out _ hb0 hb1 _).mono ?_); rintro e w' ⟨⟨b, rfl, hb9⟩, rfl⟩; have H9 := Lib.hid hb9; clear hb9))
        · go_ret
          exact ⟨gs_no rfl, rfl⟩
        · have hb9 : (((s[k].toNat : Nat) : Int) == 61) = false ∧ (!b) = false := by assumption
          have hb8 := hb9.2
          clear hb9
          have HA3 := Lib.hid (HA2.out (H9.out (by simpa using hb8)))
          clear HA2 H9 hb8
          go_round
          case rel => exact ⟨k + 1, by go_num, by omega, HF2, HA3⟩
          case measure => simp [intOf]; omega
    · have R : Hid (NoEq s ∧ Asc s) := Lib.hid ⟨mem61 s (fun j hj => HF.out j (by omega)), asc_end s (fun j hj => HA.out j (by omega))⟩
      go_wp2
      go_ret
      exact ⟨gs_yes rfl R.out, rfl⟩

set_option maxRecDepth 20000 in
set_option maxHeartbeats 1000000 in
theorem pairs39a (a : Option Addr) (c : Nat) (P : List ByteArray) (w : World) (hS : Small P) (hc : P ≠ [] → ∃ b off, a = some ⟨b, off, none⟩ ∧ ∀ j, j < P.length → w.cell? ⟨b, off + j, none⟩ = some (.string (P.getD j ByteArray.empty))) :
    Calls Tryd.prog 39 #[.slice a P.length c, .int .i64 2] w fun e w' => GuardSay (∀ j, j < P.length → AsciiKey (P.getD j ByteArray.empty).data.toList) e ∧ w = w' := by
  have B := Lib.hid (fun x h0 h1 W => byte69a x W h0 h1)
  have hp : (P.length : Int) ≤ 1048576 := by have := hS.1; omega
  have HP := Lib.hid hS.2
  clear hS
  go_enter Tryd.func39, Tryd.ntmps39
  go_wp2
  go_loop [5] (fun v5 => ∃ k : Nat, v5 = .int .i64 k ∧ (k : Int) ≤ (P.length : Int) ∧ Hid (∀ j, j < k → AsciiKey (P.getD j ByteArray.empty).data.toList)) (fun v5 => P.length - (intOf v5).toNat)
  case atStart => exact ⟨0, rfl, by omega, Lib.hid fun j hj => by omega⟩
  case round =>
    obtain ⟨k, rfl, hk, HK⟩ := hrel
    by_cases hlt : (k : Int) < (P.length : Int)
    · obtain ⟨bb, off, rfl, hcell⟩ := hc (by rintro rfl; simp at hlt; omega)
      have hx := hcell k (by omega)
      have hsz := HP.out k (by omega)
      obtain ⟨p, hp⟩ : ∃ p, p = P.getD k ByteArray.empty := ⟨_, rfl⟩
      have HK2 : Hid (AsciiKey p.data.toList → ∀ j, j < k + 1 → AsciiKey (P.getD j ByteArray.empty).data.toList) := Lib.hid fun h j hj => by
        by_cases e : j = k
        · subst e; rw [← hp]; exact h
        · exact HK.out j (by omega)
      rw [← hp] at hx hsz
      clear hc hcell hp HK
      have EQ := Lib.hid (eq68 p w (by omega))
      have hle := eqAt_le p
      have AK := Lib.hid (asc_key p.data.toList)
      generalize Envp.eqAt p.data.toList = ee at EQ hle AK
      go_wp2_with (first | (go_at_call 68; go_must (refine EQ.out.mono ?_); rintro e w' ⟨rfl, rfl⟩))
      go_loop [8] (fun v8 => ∃ j : Nat, v8 = .int .i64 j ∧ (j : Int) ≤ (p.size : Int) ∧ Hid (∀ i, i < j → ∀ b, p.data.toList[i]? = some b → b.toNat < 128)) (fun v8 => p.size - (intOf v8).toNat)
      case atStart => exact ⟨0, rfl, by omega, Lib.hid fun j hj => by omega⟩
      case round =>
        obtain ⟨j, rfl, hj, HA⟩ := hrel
        by_cases hjl : (j : Int) < ee
        · have hj' : j < p.size := by omega
          have HA2 := Lib.hid (fun h => asc_step p j hj' h HA.out)
          have hb0 : (0 : Int) ≤ ((p[j].toNat : Nat) : Int) := by omega
          have hb1 : ((p[j].toNat : Nat) : Int) < 256 := by have := UInt8.toNat_lt p[j]; omega
          go_wp2_with (first | (go_at_call 69; go_must (refine (B.out _ hb0 hb1 _).mono ?_); rintro e w' ⟨⟨b, rfl, hb9⟩, rfl⟩; have H9 := Lib.hid hb9; clear hb9))
          · go_ret
            exact ⟨gs_no rfl, rfl⟩
          · have hb8 : (!b) = false := by assumption
            have HA3 := Lib.hid (HA2.out (H9.out (by simpa using hb8)))
            clear HA2 H9 hb8
            go_round
            case rel => exact ⟨j + 1, by go_num, by omega, HA3⟩
            case measure => simp [intOf]; omega
        · have HK3 := Lib.hid (HK2.out (AK.out (fun i hi => HA.out i (by omega))))
          clear HK2 AK HA
          go_wp2
          go_round
          case rel => exact ⟨k + 1, by go_num, by omega, HK3⟩
          case measure => simp [intOf]; omega
    · have HF := Lib.hid (fun j (hj : j < P.length) => HK.out j (by omega))
      clear hc HK
      go_wp2
      go_ret
      exact ⟨gs_yes rfl HF.out, rfl⟩

/-- zzUpperASCII -/
theorem upperA (b : UInt8) (w : World) : Calls Tryd.prog 80 #[.int .u8 ((b.toNat : Nat) : Int)] w fun e w' => e = .returned (.int .u8 (((Lib.upperB b).toNat : Nat) : Int)) ∧ w = w' := by
  have h0 : (0 : Int) ≤ ((b.toNat : Nat) : Int) := by omega
  have h1 : ((b.toNat : Nat) : Int) < 256 := by have := UInt8.toNat_lt b; omega
  have HU : Hid ((97 ≤ ((b.toNat : Nat) : Int) ∧ ((b.toNat : Nat) : Int) ≤ 122 → (((Lib.upperB b).toNat : Nat) : Int) = ((b.toNat : Nat) : Int) - 32) ∧ (¬ (97 ≤ ((b.toNat : Nat) : Int) ∧ ((b.toNat : Nat) : Int) ≤ 122) → (((Lib.upperB b).toNat : Nat) : Int) = ((b.toNat : Nat) : Int))) := Lib.hid ⟨fun h => Lib.upperB_int b (by
      unfold Lib.isLowerB
      have c1 : (97 : UInt8).toNat = 97 := rfl
      have c2 : (122 : UInt8).toNat = 122 := rfl
      simp only [Bool.and_eq_true, decide_eq_true_eq, UInt8.le_iff_toNat_le]
      omega), fun h => by
      rw [Lib.upperB_of_not b (by
        have c1 : (97 : UInt8).toNat = 97 := rfl
        have c2 : (122 : UInt8).toNat = 122 := rfl
        unfold Lib.isLowerB
        rw [Bool.and_eq_false_iff]
        simp only [decide_eq_false_iff_not, UInt8.le_iff_toNat_le]
        omega)]⟩
  generalize ((b.toNat : Nat) : Int) = x at *
  generalize (((Lib.upperB b).toNat : Nat) : Int) = y at *
  by_cases c1 : 97 ≤ x
  · by_cases c2 : x ≤ 122
    · have hy := HU.out.1 ⟨c1, c2⟩
      clear HU
      subst hy
      go_enter Tryd.func80, Tryd.ntmps80
      go_wp2
      go_ret
      exact ⟨by first | rfl | (congr 2; omega) | (simp; omega), rfl⟩
    · have hy := HU.out.2 (by omega)
      clear HU
      subst hy
      go_enter Tryd.func80, Tryd.ntmps80
      go_wp2
      go_ret
      exact ⟨rfl, rfl⟩
  · have hy := HU.out.2 (by omega)
    clear HU
    subst hy
    go_enter Tryd.func80, Tryd.ntmps80
    go_wp2
    go_ret
    exact ⟨rfl, rfl⟩

theorem upperB (b : UInt8) (w : World) : Calls Tryd.prog 80 #[.int .u8 ((b.toNat : Nat) : Int)] w fun e w' => e = .returned (.int .u8 (((Lib.upperB b).toNat : Nat) : Int)) ∧ Below w.heap.size w w' :=
  (upperA b w).mono fun e w' ⟨h1, h2⟩ => ⟨h1, by subst h2; exact Below.refl _ _⟩
/-- a text's bytes, ASCII letters in upper case -/
def upL (s : ByteArray) : List UInt8 := s.data.toList.map Lib.upperB
theorem upL_at (s : ByteArray) (k : Nat) (hk : k < s.size) : (upL s)[k]? = some (Lib.upperB s[k]) := by
  unfold upL
  rw [List.getElem?_map, Lib.data_getElem? s k hk]; rfl
theorem upL_len (s : ByteArray) : (upL s).length = s.size := by unfold upL; rw [List.length_map, Array.length_toList]; rfl
theorem eqT_step {a b : ByteArray} {k : Nat} (ha : k < a.size) (hb : k < b.size) (h : Lib.upperB a[k] = Lib.upperB b[k]) (HF : ∀ j, j < k → (upL a)[j]? = (upL b)[j]?) : ∀ j, j < k + 1 → (upL a)[j]? = (upL b)[j]? := by
  intro j hj
  by_cases e : j = k
  · subst e; rw [upL_at a j ha, upL_at b j hb, h]
  · exact HF j (by omega)
theorem eqT_end {a b : ByteArray} (hsz : a.size = b.size) (HF : ∀ j, j < a.size → (upL a)[j]? = (upL b)[j]?) : (upL a == upL b) = true := by
  rw [beq_iff_eq]
  have la := upL_len a
  have lb := upL_len b
  apply List.ext_getElem?
  intro j
  by_cases c : j < a.size
  · exact HF j c
  · rw [List.getElem?_eq_none (by omega), List.getElem?_eq_none (by omega)]
theorem neT_at {a b : ByteArray} {k : Nat} (ha : k < a.size) (hb : k < b.size) (h : Lib.upperB a[k] ≠ Lib.upperB b[k]) : (upL a == upL b) = false := by
  rw [beq_eq_false_iff_ne]
  intro e
  have := congrArg (·[k]?) e
  simp only [upL_at a k ha, upL_at b k hb, Option.some.injEq] at this
  exact h this
theorem neT_size {a b : ByteArray} (h : ¬ a.size = b.size) : (upL a == upL b) = false := by
  rw [beq_eq_false_iff_ne]
  intro e
  have := congrArg List.length e
  rw [upL_len, upL_len] at this
  exact h this

set_option maxRecDepth 20000 in
set_option maxHeartbeats 1000000 in
theorem nameEq70T (a b : ByteArray) (w : World) (r : Bool) (hr : Hid ((upL a == upL b) = r)) (sa : a.size ≤ 1073741824) : Calls Tryd.prog 70 #[.string a, .string b, .bool true] w fun e w' => e = .returned (.bool r) ∧ Below w.heap.size w w' := by
  by_cases hsz : a.size = b.size
  · have hsz' : (a.size : Int) = (b.size : Int) := by omega
    go_enter Tryd.func70, Tryd.ntmps70
    go_wp2
    go_loopg [7] (a.size) (fun g v7 wr => ∃ k : Nat, v7 = .int .i64 k ∧ (k : Int) ≤ (a.size : Int) ∧ a.size - k ≤ g ∧ Hid (∀ j, j < k → (upL a)[j]? = (upL b)[j]?) ∧ Hid (Below w.heap.size w wr))
    case atStart => exact ⟨0, rfl, by omega, by omega, Lib.hid fun j hj => by omega, Lib.hid (Below.refl _ _)⟩
    case round =>
      obtain ⟨k, rfl, hk, hg, HF, BW⟩ := hrel
      by_cases hlt : (k : Int) < (a.size : Int)
      · have ha : k < a.size := by omega
        have hb : k < b.size := by omega
        have hbi : (k : Int) < (b.size : Int) := by omega
        have UX := Lib.hid (fun x W => grown_calls (upperB x W))
        have mixed : Tryd.prog.follows .mixedOrders = true := by kernel_rfl
        by_cases c : Lib.upperB a[k] = Lib.upperB b[k]
        · have HF2 := Lib.hid (eqT_step ha hb c HF.out)
          have c' : (((Lib.upperB a[k]).toNat : Nat) : Int) = (((Lib.upperB b[k]).toNat : Nat) : Int) := by rw [c]
          clear c
          go_wp2
          go_quiet_grown (first | (go_at_call 80; refine Calls.grown_of (UX.out _ _)))
          go_wp2
          go_roundg (a.size - (k + 1))
          case measure => omega
          case rel => exact ⟨k + 1, by go_num, by omega, Nat.le_refl _, HF2, Lib.hid (below_grow13 BW.out _ _ BW.out.size)⟩
        · have R : Hid (r = false) := Lib.hid (hr.out.symm.trans (neT_at ha hb c))
          have c' : ¬ (((Lib.upperB a[k]).toNat : Nat) : Int) = (((Lib.upperB b[k]).toNat : Nat) : Int) := fun h => c (Lib.byte_eq_of_toNat h)
          clear c
          go_wp2
          go_quiet_grown (first | (go_at_call 80; refine Calls.grown_of (UX.out _ _)))
          go_wp2
          go_ret
          exact ⟨by rw [R.out]; rfl, below_grow13 BW.out _ _ BW.out.size⟩
      · have R : Hid (r = true) := Lib.hid (hr.out.symm.trans (eqT_end hsz (fun j hj => HF.out j (by omega))))
        go_wp2
        go_ret
        exact ⟨by rw [R.out]; rfl, BW.out⟩
  · have hsz' : ¬ (a.size : Int) = (b.size : Int) := by omega
    have R : Hid (r = false) := Lib.hid (hr.out.symm.trans (neT_size hsz))
    go_enter Tryd.func70, Tryd.ntmps70
    go_wp2
    go_ret
    exact ⟨by rw [R.out]; rfl, Below.refl _ _⟩

/-- a pair, its name in upper case, as a text -/
def foldB (p : ByteArray) : ByteArray := ⟨(foldP p.data.toList).toArray⟩
theorem foldB_list (p : ByteArray) : (foldB p).data.toList = foldP p.data.toList := rfl
theorem foldB_map (P : List ByteArray) : (P.map foldB).map (·.data.toList) = (P.map (·.data.toList)).map foldP := by
  rw [List.map_map, List.map_map]; rfl
theorem foldB_take (P : List ByteArray) (k : Nat) : ((P.map foldB).take k).map (·.data.toList) = ((P.take k).map (·.data.toList)).map foldP := by
  rw [← List.map_take]; exact foldB_map _
theorem foldB_getD (P : List ByteArray) (k : Nat) (hk : k < P.length) : foldB (P.getD k ByteArray.empty) = (P.map foldB).getD k ByteArray.empty := by
  simp [List.getD, List.getElem?_eq_getElem hk]
theorem upB_ascii {q : ByteArray} (h : Asc q) : (upB q).data.toList = upL q := by
  rw [upB_list, Lib.toUpperD_ascii _ h]; rfl
theorem upB_size {q : ByteArray} (h : Asc q) : (upB q).size = q.size := by
  have := congrArg List.length (upB_ascii h)
  rw [upL_len, Array.length_toList] at this
  exact this
theorem nameT_no0 {p q : ByteArray} (ha : AsciiKey p.data.toList) (h1 : Envp.eqAt p.data.toList ≤ 0) : Envp.isName q.data.toList (foldB p).data.toList = false := by
  refine name_no0 ?_
  rw [foldB_list, (fold_facts ha).1]; exact h1
theorem nameT_kk {p q : ByteArray} {kk : Nat} (ha : AsciiKey p.data.toList) (hq : Asc q) (h0 : 0 < kk) (h1 : Envp.eqAt p.data.toList = (kk : Int)) : Envp.isName (upB q).data.toList (foldB p).data.toList = (upL (p.extract 0 kk) == upL q) := by
  have hv : Envp.valid p.data.toList = true := by unfold Envp.valid; rw [h1]; exact decide_eq_true (by omega)
  obtain ⟨k1, _, _, _⟩ := Envp.key_valid hv
  have an : ∀ b ∈ Envp.nameOf p.data.toList, b.toNat < 128 := fun b hb => ha b (by rw [k1]; simp [hb])
  unfold Envp.isName
  rw [foldB_list, fold_valid ha, hv, Bool.true_and, (fold_name ha hv).1, upB_ascii hq, Lib.toUpperD_ascii _ an]
  unfold upL Envp.nameOf
  rw [h1, Int.toNat_natCast, extract_data, List.drop_zero, Nat.sub_zero]
  rfl
theorem nameT_size {p q : ByteArray} {kk : Nat} (h1 : Envp.eqAt p.data.toList = (kk : Int)) (h2 : (upL (p.extract 0 kk) == upL q) = true) : kk = q.size := by
  rw [beq_iff_eq] at h2
  have hlt := (Envp.split_of h1).2.2
  have := congrArg List.length h2
  rw [upL_len, upL_len, ByteArray.size_extract] at this
  have hl : p.data.toList.length = p.size := by simp
  omega
theorem foldB_ext {p : ByteArray} {kk : Nat} (ha : AsciiKey p.data.toList) (h0 : 0 < kk) (h1 : Envp.eqAt p.data.toList = (kk : Int)) : (foldB p).extract (kk + 1) (foldB p).size = p.extract (kk + 1) p.size :=
  fold_text ha (by unfold Envp.valid; rw [h1]; exact decide_eq_true (by omega)) h1
theorem fndT_same {P : List ByteArray} {q : ByteArray} {k : Nat} {b : Bool} {s p : ByteArray} (hk : k < P.length) (hp : p = P.getD k ByteArray.empty) (hn : Envp.isName (upB q).data.toList (foldB p).data.toList = false)
    (h : Fnd (upB q) b s (Envp.look (((P.map foldB).take k).map (·.data.toList)) (upB q).data.toList)) : Fnd (upB q) b s (Envp.look (((P.map foldB).take (k + 1)).map (·.data.toList)) (upB q).data.toList) :=
  fnd_same (by rw [List.length_map]; exact hk) (by rw [hp]; exact foldB_getD P k hk) hn h
theorem fndT_new {P : List ByteArray} {q : ByteArray} {k kk : Nat} {p : ByteArray} (hk : k < P.length) (hp : p = P.getD k ByteArray.empty) (ha : AsciiKey p.data.toList) (hq : Asc q) (h0 : 0 < kk) (h1 : Envp.eqAt p.data.toList = (kk : Int)) (hs : kk = q.size) (hn : Envp.isName (upB q).data.toList (foldB p).data.toList = true) :
    Fnd (upB q) true (p.extract (kk + 1) p.size) (Envp.look (((P.map foldB).take (k + 1)).map (·.data.toList)) (upB q).data.toList) := by
  have := fnd_new (P := P.map foldB) (p := foldB p) (q := upB q) (k := k) (by rw [List.length_map]; exact hk) (by rw [hp]; exact foldB_getD P k hk) hn
  rw [upB_size hq, ← hs, foldB_ext ha h0 h1] at this
  exact this

set_option maxRecDepth 20000 in
set_option maxHeartbeats 1000000 in
theorem model43T (a : Option Addr) (c : Nat) (P : List ByteArray) (q : ByteArray) (w : World) (hv : Texts w (.slice a P.length c) P) (hS : Small P) (hA : ∀ j, j < P.length → AsciiKey (P.getD j ByteArray.empty).data.toList) (hq : Asc q) (sq : q.size ≤ 1048576) :
    Calls Tryd.prog 43 #[.slice a P.length c, .string q, .bool true] w fun e w' => ModelOut (upB q) (Envp.look ((P.map foldB).map (·.data.toList)) (upB q).data.toList) e ∧ Below w.heap.size w w' := by
  have HT := Lib.hid hv
  have HS := Lib.hid hS
  have hn : (P.length : Int) ≤ 1048576 := by have := hS.1; omega
  have HA := Lib.hid hA
  have HQ := Lib.hid hq
  clear hv hS hA hq
  cases hq0 : q.toList.isEmpty
  · have FN0 : Hid (Fnd (upB q) false ByteArray.empty (Envp.look (((P.map foldB).take 0).map (·.data.toList)) (upB q).data.toList)) := Lib.hid rfl
    go_enter Tryd.func43, Tryd.ntmps43
    go_wp2
    go_loopg [8, 9, 10] (P.length) (fun g v8 v9 v10 wr => ∃ (b : Bool) (s : ByteArray) (k : Nat), v8 = .string s ∧ v9 = .bool b ∧ v10 = .int .i64 k ∧ (k : Int) ≤ (P.length : Int) ∧ P.length - k ≤ g ∧ Hid (Fnd (upB q) b s (Envp.look (((P.map foldB).take k).map (·.data.toList)) (upB q).data.toList)) ∧ Hid (Below w.heap.size w wr))
    case atStart => exact ⟨false, ByteArray.empty, 0, rfl, rfl, rfl, by omega, by omega, FN0, Lib.hid (Below.refl _ _)⟩
    case round =>
      clear FN0
      obtain ⟨bf, sf, k, rfl, rfl, rfl, hk, hg, FN, BW⟩ := hrel
      by_cases hlt : (k : Int) < (P.length : Int)
      · have hkn : k < P.length := by omega
        obtain ⟨bb, off, rfl, hcell⟩ := texts_cells (texts_below HT.out BW.out) (by rintro rfl; simp at hkn)
        have hx := hcell k hkn
        have hsz := HS.out.2 k hkn
        obtain ⟨p, hp⟩ : ∃ p, p = P.getD k ByteArray.empty := ⟨_, rfl⟩
        have HAK : Hid (AsciiKey p.data.toList) := by rw [hp]; exact Lib.hid (HA.out k hkn)
        rw [← hp] at hx hsz
        clear hcell
        have EQ := Lib.hid (fun W => eq68 p W (by omega))
        by_cases c0 : Envp.eqAt p.data.toList ≤ 0
        · have FN2 := Lib.hid (fndT_same hkn hp (nameT_no0 HAK.out c0) FN.out)
          generalize Envp.eqAt p.data.toList = ee at EQ c0
          clear hp FN
          go_wp2_with (first | (go_at_call 68; go_must (refine (EQ.out _).mono ?_); rintro e w' ⟨rfl, rfl⟩))
          go_roundg (P.length - (k + 1))
          case measure => omega
          case rel => exact ⟨bf, sf, k + 1, rfl, rfl, by go_num, by omega, Nat.le_refl _, FN2, BW⟩
        · obtain ⟨kk, hkk⟩ : ∃ kk : Nat, Envp.eqAt p.data.toList = (kk : Int) := ⟨(Envp.eqAt p.data.toList).toNat, by omega⟩
          have hpos : 0 < kk := by omega
          have hle : kk + 1 ≤ p.size := by
            have := (Envp.split_of hkk).2.2
            have hl : p.data.toList.length = p.size := by simp
            omega
          have hnm := nameT_kk (q := q) HAK.out HQ.out hpos hkk
          have hsize := fun h => nameT_size (q := q) hkk h
          rw [hkk] at EQ
          have p0 : (0 : Int) ≤ (kk : Int) := by omega
          have pp : ¬ (kk : Int) ≤ 0 := by omega
          have p1 : (kk : Int) ≤ (p.size : Int) := by omega
          have p2 : (kk : Int) + 1 ≤ (p.size : Int) := by omega
          have p3 : (0 : Int) ≤ (kk : Int) + 1 := by omega
          have p4 : ((kk : Int) + 1).toNat = kk + 1 := by omega
          have hes : (p.extract 0 kk).size ≤ 1073741824 := by rw [ByteArray.size_extract]; omega
          have NE := Lib.hid (fun W r hr => nameEq70T (p.extract 0 kk) q W r hr hes)
          clear hes
          cases c2 : (upL (p.extract 0 kk) == upL q) with
          | true =>
            rw [c2] at hnm
            have e := hsize c2
            have FN2 : Hid (Fnd (upB q) true (p.extract (kk + 1) p.size) (Envp.look (((P.map foldB).take (k + 1)).map (·.data.toList)) (upB q).data.toList)) := Lib.hid (fndT_new hkn hp HAK.out HQ.out hpos hkk e hnm)
            have N2 := Lib.hid (fun W => NE.out W true (Lib.hid c2))
            clear NE c2 hnm hsize e hkk c0 hp FN
            go_wp2_with (first | (go_at_call 68; go_must (refine (EQ.out _).mono ?_); rintro e w' ⟨rfl, rfl⟩) | (go_at_call 70; go_must (refine (N2.out _).mono ?_); rintro e w5 ⟨rfl, hB5⟩; have HB5 := Lib.hid (BW.out.trans (hB5.mono BW.out.size)); clear hB5 N2))
            go_roundg (P.length - (k + 1))
            case measure => omega
            case rel => exact ⟨true, _, k + 1, rfl, rfl, by go_num, by omega, Nat.le_refl _, FN2, (by first | exact HB5 | exact Lib.hid HB5.out.drew)⟩
          | false =>
            rw [c2] at hnm
            have FN2 := Lib.hid (fndT_same hkn hp hnm FN.out)
            have N2 := Lib.hid (fun W => NE.out W false (Lib.hid c2))
            clear NE c2 hnm hsize hkk c0 hp FN
            go_wp2_with (first | (go_at_call 68; go_must (refine (EQ.out _).mono ?_); rintro e w' ⟨rfl, rfl⟩) | (go_at_call 70; go_must (refine (N2.out _).mono ?_); rintro e w5 ⟨rfl, hB5⟩; have HB5 := Lib.hid (BW.out.trans (hB5.mono BW.out.size)); clear hB5 N2))
            go_roundg (P.length - (k + 1))
            case measure => omega
            case rel => exact ⟨bf, sf, k + 1, rfl, rfl, by go_num, by omega, Nat.le_refl _, FN2, (by first | exact HB5 | exact Lib.hid HB5.out.drew)⟩
      · have hkk : k = P.length := by omega
        have FE := FN.out
        rw [hkk, List.take_of_length_le (by rw [List.length_map]; exact Nat.le_refl _)] at FE
        have HF := Lib.hid FE
        clear FN hkk FE
        go_wp2
        go_ret2
        exact ⟨mo_mk rfl (by first | exact HF.out | (have h9 := HF.out; rw [List.map_map] at h9; exact h9)), BW.out⟩
  · have HL : Envp.look ((P.map foldB).map (·.data.toList)) (upB q).data.toList = none := by
      rw [Lib.toList_data] at hq0
      have e : (upB q).data.toList = [] := by rw [upB_ascii HQ.out]; unfold upL; rw [List.isEmpty_iff.1 hq0]; rfl
      rw [e]; exact look_empty _
    rw [HL]
    clear HL
    go_enter Tryd.func43, Tryd.ntmps43
    go_wp2
    go_ret2
    exact ⟨mo_mk rfl rfl, Below.refl _ _⟩

end Go.Proofs.YthihppocokkoiaaDoor
