/-
  The helpers of the laws of n010_90: the bound on the lengths, the first '=', the sum of the lengths, the model. Conditions: those in each theorem.
-/
import Derived.Test.YthihppocokkoiaaDoorLw8
namespace Go.Proofs.YthihppocokkoiaaDoor
set_option linter.unusedVariables false
open Go.Shelf Go.RowKit Go.Lib Go.Sort


set_option maxHeartbeats 1000000 in
theorem bytes24 (a : Option Addr) (c : Nat) (P : List ByteArray) (q : ByteArray) (w : World) (hc : P ≠ [] → ∃ b off, a = some ⟨b, off, none⟩ ∧ ∀ j, j < P.length → w.cell? ⟨b, off + j, none⟩ = some (.string (P.getD j ByteArray.empty))) :
    Calls Tryd.prog 24 #[.slice a P.length c, .string q] w fun e w' => GuardSay (Small P ∧ q.size ≤ 1048576) e ∧ w = w' := by
  go_enter Tryd.func24, Tryd.ntmps24
  by_cases hn : (1048576 : Int) < (P.length : Int)
  · go_wp2
    go_ret
    exact ⟨gs_no rfl, rfl⟩
  · go_wp2
    go_loop [5, 6] (fun v5 v6 => ∃ t k : Nat, v5 = .int .i64 t ∧ v6 = .int .i64 k ∧ (t : Int) ≤ 1048576 ∧ (k : Int) ≤ (P.length : Int) ∧ Hid (∀ j, j < k → (P.getD j ByteArray.empty).size ≤ 1048576)) (fun v5 v6 => P.length - (intOf v6).toNat)
    case atStart => exact ⟨P.length, 0, rfl, rfl, by omega, by omega, Lib.hid fun j hj => by omega⟩
    case round =>
      obtain ⟨t, k, rfl, rfl, ht, hk, HS⟩ := hrel
      by_cases hlt : (k : Int) < (P.length : Int)
      · obtain ⟨b, off, rfl, hcell⟩ := hc (by rintro rfl; simp at hlt; omega)
        have hx := hcell k (by omega)
        obtain ⟨s, hs⟩ : ∃ s, s = P.getD k ByteArray.empty := ⟨_, rfl⟩
        rw [← hs] at hx
        have HS2 : Hid (s.size ≤ 1048576 → ∀ j, j < k + 1 → (P.getD j ByteArray.empty).size ≤ 1048576) := Lib.hid fun h j hj => by
          by_cases e : j = k
          · subst e; rw [← hs]; exact h
          · exact HS.out j (by omega)
        clear hc hcell hs
        by_cases c1 : (1048576 : Int) < (s.size : Int)
        · go_wp2
          go_ret
          exact ⟨gs_no rfl, rfl⟩
        · by_cases c2 : (1048576 : Int) < (t : Int) + (s.size : Int)
          · go_wp2
            go_ret
            exact ⟨gs_no rfl, rfl⟩
          · go_wp2
            go_round
            case rel => exact ⟨t + s.size, k + 1, by go_num, by go_num, by omega, by omega, Lib.hid (HS2.out (by omega))⟩
            case measure => simp [intOf]; omega
      · have HF : Hid (Small P) := Lib.hid ⟨by omega, fun j hj => HS.out j (by omega)⟩
        clear hc
        by_cases c1 : (1048576 : Int) < (q.size : Int)
        · go_wp2
          go_ret
          exact ⟨gs_no rfl, rfl⟩
        · by_cases c2 : (1048576 : Int) < (t : Int) + (q.size : Int)
          · go_wp2
            go_ret
            exact ⟨gs_no rfl, rfl⟩
          · go_wp2
            go_ret
            exact ⟨gs_yes rfl ⟨HF.out, by omega⟩, rfl⟩

set_option maxHeartbeats 400000 in
theorem eq26 (s : ByteArray) (w : World) (hs : s.size ≤ 1073741824) : Calls Tryd.prog 26 #[.string s] w fun e w' => e = .returned (.int .i64 (Envp.eqAt s.data.toList)) ∧ w = w' := by
  go_enter Tryd.func26, Tryd.ntmps26
  go_wp2
  go_loop [3] (fun v3 => ∃ k : Nat, v3 = .int .i64 k ∧ (k : Int) ≤ (s.size : Int) ∧ Hid (∀ j, j < k → s.data.toList[j]? ≠ some 61)) (fun v3 => s.size - (intOf v3).toNat)
  case atStart => exact ⟨0, rfl, by omega, Lib.hid fun j hj => by omega⟩
  case round =>
    obtain ⟨k, rfl, hk, HF⟩ := hrel
    by_cases hlt : (k : Int) < (s.size : Int)
    · have hk' : k < s.size := by omega
      by_cases c : s[k] = 61
      · have R : Hid (((k : Nat) : Int) = Envp.eqAt s.data.toList) := Lib.hid (ib_hit _ k HF.out (by rw [Lib.data_getElem? s k hk', c])).symm
        have c' : ((s[k].toNat : Nat) : Int) = 61 := by rw [c]; rfl
        clear c
        go_wp2
        go_ret
        exact ⟨ret_int R.out, rfl⟩
      · have HF2 := Lib.hid (ib_step s k hk' c HF.out)
        have c' : ¬ ((s[k].toNat : Nat) : Int) = 61 := fun h => c (Lib.byte_eq_of_toNat h)
        clear c
        go_wp2
        go_round
        case rel => exact ⟨k + 1, by go_num, by omega, HF2⟩
        case measure => simp [intOf]; omega
    · have hle : s.data.toList.length = s.size := by simp
      have R : Hid ((-1 : Int) = Envp.eqAt s.data.toList) := Lib.hid (ib_none _ (fun j hj => HF.out j (by omega))).symm
      clear hle
      go_wp2
      go_ret
      exact ⟨ret_int R.out, rfl⟩

/-- the sum that zzPairsBytes hands back -/
def SumOut (e : Ending) : Prop := ∃ n : Nat, e = .returned (.int .i64 n) ∧ (n : Int) ≤ 4300000000
theorem so_mk {e : Ending} {n : Nat} (h : e = .returned (.int .i64 n)) (b : (n : Int) ≤ 4300000000) : SumOut e := ⟨n, h, b⟩

theorem sum_step {t k n s : Nat} (ht : (t : Int) ≤ 1048584 * (k : Int)) (hs : s ≤ 1048576) : ((t + (s + 8) : Nat) : Int) ≤ 1048584 * ((k + 1 : Nat) : Int) := by omega

set_option maxRecDepth 20000 in
set_option maxHeartbeats 1000000 in
theorem sum25 (a : Option Addr) (c : Nat) (P : List ByteArray) (w : World) (hS : Small P) (hl : P.length ≤ 4096) (hc : P ≠ [] → ∃ b off, a = some ⟨b, off, none⟩ ∧ ∀ j, j < P.length → w.cell? ⟨b, off + j, none⟩ = some (.string (P.getD j ByteArray.empty))) :
    Calls Tryd.prog 25 #[.slice a P.length c] w fun e w' => SumOut e ∧ w = w' := by
  have hp : (P.length : Int) ≤ 4096 := by omega
  have HP := Lib.hid hS.2
  clear hS hl
  go_enter Tryd.func25, Tryd.ntmps25
  go_wp2
  go_loop [3, 4] (fun v3 v4 => ∃ t k : Nat, v3 = .int .i64 t ∧ v4 = .int .i64 k ∧ (k : Int) ≤ (P.length : Int) ∧ (t : Int) ≤ 1048584 * (k : Int)) (fun v3 v4 => P.length - (intOf v4).toNat)
  case atStart => exact ⟨0, 0, rfl, rfl, by omega, by omega⟩
  case round =>
    obtain ⟨t, k, rfl, rfl, hk, ht⟩ := hrel
    have htb : (t : Int) ≤ 4295000064 := by omega
    by_cases hlt : (k : Int) < (P.length : Int)
    · obtain ⟨b, off, rfl, hcell⟩ := hc (by rintro rfl; simp at hlt; omega)
      have hx := hcell k (by omega)
      have hsz := HP.out k (by omega)
      obtain ⟨s, hs⟩ : ∃ s, s = P.getD k ByteArray.empty := ⟨_, rfl⟩
      rw [← hs] at hx hsz
      have HT := Lib.hid (sum_step (n := 0) ht hsz)
      clear hc hcell hs ht
      go_wp2
      go_round
      case rel => exact ⟨t + (s.size + 8), k + 1, by go_num, by go_num, by omega, HT.out⟩
      case measure => simp [intOf]; omega
    · clear hc ht
      go_wp2
      go_ret
      exact ⟨so_mk rfl (by omega), rfl⟩


/-- what the model of n010_90 hands back -/
def Fnd2 (q : ByteArray) (s : ByteArray) (o : Option (List UInt8)) : Prop :=
  match o with
  | none => s = ⟨#[]⟩
  | some x => s = (⟨x.toArray⟩ : ByteArray).extract (q.size + 1) (⟨x.toArray⟩ : ByteArray).size

theorem fnd2_same {P : List ByteArray} {q : ByteArray} {k : Nat} {s p : ByteArray} (hk : k < P.length) (hp : p = P.getD k ByteArray.empty) (hn : Envp.isName q.data.toList p.data.toList = false)
    (h : Fnd2 q s (Envp.look ((P.take k).map (·.data.toList)) q.data.toList)) : Fnd2 q s (Envp.look ((P.take (k + 1)).map (·.data.toList)) q.data.toList) := by
  rw [look_step P q.data.toList k hk p.data.toList (by rw [hp]), if_neg (by rw [hn]; decide)]; exact h
theorem fnd2_new {P : List ByteArray} {q : ByteArray} {k : Nat} {p : ByteArray} (hk : k < P.length) (hp : p = P.getD k ByteArray.empty) (hn : Envp.isName q.data.toList p.data.toList = true) :
    Fnd2 q (p.extract (q.size + 1) p.size) (Envp.look ((P.take (k + 1)).map (·.data.toList)) q.data.toList) := by
  rw [look_step P q.data.toList k hk p.data.toList (by rw [hp]), if_pos hn]
  exact rfl
/-- the model's text -/
def TextOut (q : ByteArray) (o : Option (List UInt8)) (e : Ending) : Prop := ∃ s, e = .returned (.string s) ∧ Fnd2 q s o
theorem to_mk {q : ByteArray} {o : Option (List UInt8)} {e : Ending} {s : ByteArray} (h : e = .returned (.string s)) (f : Fnd2 q s o) : TextOut q o e := ⟨s, h, f⟩


set_option maxRecDepth 20000 in
set_option maxHeartbeats 1000000 in
theorem model30 (a : Option Addr) (c : Nat) (P : List ByteArray) (q : ByteArray) (w : World) (hv : Texts w (.slice a P.length c) P) (hS : Small P) (sq : q.size ≤ 1048576) :
    Calls Tryd.prog 30 #[.slice a P.length c, .string q] w fun e w' => TextOut q (Envp.look (P.map (·.data.toList)) q.data.toList) e ∧ Below w.heap.size w w' := by
  have HT := Lib.hid hv
  have HS := Lib.hid hS
  have hn : (P.length : Int) ≤ 1048576 := by have := hS.1; omega
  clear hv hS
  · have FN0 : Hid (Fnd2 q ⟨#[]⟩ (Envp.look ((P.take 0).map (·.data.toList)) q.data.toList)) := Lib.hid rfl
    go_enter Tryd.func30, Tryd.ntmps30
    go_wp2
    go_loopg [5, 6] (P.length) (fun g v8 v10 wr => ∃ (s : ByteArray) (k : Nat), v8 = .string s ∧ v10 = .int .i64 k ∧ (k : Int) ≤ (P.length : Int) ∧ P.length - k ≤ g ∧ Hid (Fnd2 q s (Envp.look ((P.take k).map (·.data.toList)) q.data.toList)) ∧ Hid (Below w.heap.size w wr))
    case atStart => exact ⟨⟨#[]⟩, 0, rfl, rfl, by omega, by omega, FN0, Lib.hid (Below.refl _ _)⟩
    case round =>
      clear FN0
      obtain ⟨sf, k, rfl, rfl, hk, hg, FN, BW⟩ := hrel
      by_cases hlt : (k : Int) < (P.length : Int)
      · have hkn : k < P.length := by omega
        obtain ⟨bb, off, rfl, hcell⟩ := texts_cells (texts_below HT.out BW.out) (by rintro rfl; simp at hkn)
        have hx := hcell k hkn
        have hsz := HS.out.2 k hkn
        obtain ⟨p, hp⟩ : ∃ p, p = P.getD k ByteArray.empty := ⟨_, rfl⟩
        rw [← hp] at hx hsz
        clear hcell
        have EQ := Lib.hid (fun W => eq26 p W (by omega))
        by_cases c0 : Envp.eqAt p.data.toList ≤ 0
        · have FN2 := Lib.hid (fnd2_same hkn hp (name_no0 c0) FN.out)
          generalize Envp.eqAt p.data.toList = ee at EQ c0
          clear hp FN
          go_wp2_with (first | (go_at_call 26; go_must (refine (EQ.out _).mono ?_); rintro e w' ⟨rfl, rfl⟩))
          go_roundg (P.length - (k + 1))
          case measure => omega
          case rel => exact ⟨sf, k + 1, rfl, by go_num, by omega, Nat.le_refl _, FN2, BW⟩
        · obtain ⟨kk, hkk⟩ : ∃ kk : Nat, Envp.eqAt p.data.toList = (kk : Int) := ⟨(Envp.eqAt p.data.toList).toNat, by omega⟩
          have hpos : 0 < kk := by omega
          have hle : kk + 1 ≤ p.size := by
            have := (Envp.split_of hkk).2.2
            have hl : p.data.toList.length = p.size := by simp
            omega
          have hnm := name_kk (q := q) hpos hkk
          have hsize := fun h => name_size (q := q) hkk h
          rw [hkk] at EQ
          have p0 : (0 : Int) ≤ (kk : Int) := by omega
          have pp : (0 : Int) < (kk : Int) := by omega
          have p1 : (kk : Int) ≤ (p.size : Int) := by omega
          have p2 : (kk : Int) + 1 ≤ (p.size : Int) := by omega
          have p3 : (0 : Int) ≤ (kk : Int) + 1 := by omega
          have p4 : ((kk : Int) + 1).toNat = kk + 1 := by omega
          cases c2 : ((p.extract 0 kk).toList == q.toList) with
          | true =>
            rw [c2] at hnm
            have e := hsize c2
            have FN2 : Hid (Fnd2 q (p.extract (kk + 1) p.size) (Envp.look ((P.take (k + 1)).map (·.data.toList)) q.data.toList)) := by rw [e]; exact Lib.hid (fnd2_new hkn hp hnm)
            clear hnm hsize e hkk c0 hp FN
            go_wp2_with (first | (go_at_call 26; go_must (refine (EQ.out _).mono ?_); rintro e w' ⟨rfl, rfl⟩))
            go_roundg (P.length - (k + 1))
            case measure => omega
            case rel => exact ⟨_, k + 1, rfl, by go_num, by omega, Nat.le_refl _, FN2, (by first | exact BW | exact Lib.hid BW.out.drew)⟩
          | false =>
            rw [c2] at hnm
            have FN2 := Lib.hid (fnd2_same hkn hp hnm FN.out)
            clear hnm hsize hkk c0 hp FN
            go_wp2_with (first | (go_at_call 26; go_must (refine (EQ.out _).mono ?_); rintro e w' ⟨rfl, rfl⟩))
            go_roundg (P.length - (k + 1))
            case measure => omega
            case rel => exact ⟨sf, k + 1, rfl, by go_num, by omega, Nat.le_refl _, FN2, (by first | exact BW | exact Lib.hid BW.out.drew)⟩
      · have hkk : k = P.length := by omega
        have FE := FN.out
        rw [hkk, List.take_length] at FE
        have HF := Lib.hid FE
        clear FN hkk FE
        go_wp2
        go_ret
        exact ⟨to_mk rfl HF.out, BW.out⟩


end Go.Proofs.YthihppocokkoiaaDoor
