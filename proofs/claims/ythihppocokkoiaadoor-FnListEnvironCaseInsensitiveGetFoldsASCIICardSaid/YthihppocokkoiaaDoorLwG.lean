/-
  The walk of zzModelGet (without folding): the value of the last pair of that name. Conditions: those in each theorem.
-/
import Derived.Test.YthihppocokkoiaaDoorLwF
import Derived.Test.YthihppocokkoiaaDoorLw12
namespace Go.Proofs.YthihppocokkoiaaDoor
set_option linter.unusedVariables false
open Go.Shelf Go.RowKit Go.Lib Go.Sort

theorem name_no0 {p q : ByteArray} (h1 : Envp.eqAt p.data.toList ≤ 0) : Envp.isName q.data.toList p.data.toList = false := by
  unfold Envp.isName Envp.valid
  rw [decide_eq_false (by omega), Bool.false_and]
theorem name_kk {p q : ByteArray} {kk : Nat} (h0 : 0 < kk) (h1 : Envp.eqAt p.data.toList = (kk : Int)) : Envp.isName q.data.toList p.data.toList = ((p.extract 0 kk).toList == q.toList) := by
  unfold Envp.isName Envp.valid Envp.nameOf
  rw [h1, Int.toNat_natCast, decide_eq_true (by omega), Bool.true_and, Lib.toList_data, Lib.toList_data, extract_data, List.drop_zero, Nat.sub_zero]
theorem name_size {p q : ByteArray} {kk : Nat} (h1 : Envp.eqAt p.data.toList = (kk : Int)) (h2 : ((p.extract 0 kk).toList == q.toList) = true) : kk = q.size := by
  rw [Lib.toList_data, Lib.toList_data, extract_data, List.drop_zero, Nat.sub_zero, beq_iff_eq] at h2
  have hlt := (Envp.split_of h1).2.2
  have := congrArg List.length h2
  rw [List.length_take, Array.length_toList (xs := q.data)] at this
  show kk = q.data.size
  omega

/-- what zzModelGet hands back -/
def ModelOut (q : ByteArray) (o : Option (List UInt8)) (e : Ending) : Prop := ∃ b s, e = .returned (.tuple #[.string s, .bool b]) ∧ Fnd q b s o
theorem mo_mk {q : ByteArray} {o : Option (List UInt8)} {e : Ending} {b : Bool} {s : ByteArray} (h : e = .returned (.tuple #[.string s, .bool b])) (f : Fnd q b s o) : ModelOut q o e := ⟨b, s, h, f⟩

set_option maxRecDepth 20000 in
set_option maxHeartbeats 1000000 in
theorem model43 (a : Option Addr) (c : Nat) (P : List ByteArray) (q : ByteArray) (w : World) (hv : Texts w (.slice a P.length c) P) (hS : Small P) (sq : q.size ≤ 1048576) :
    Calls Tryd.prog 43 #[.slice a P.length c, .string q, .bool false] w fun e w' => ModelOut q (Envp.look (P.map (·.data.toList)) q.data.toList) e ∧ Below w.heap.size w w' := by
  have HT := Lib.hid hv
  have HS := Lib.hid hS
  have hn : (P.length : Int) ≤ 1048576 := by have := hS.1; omega
  clear hv hS
  cases hq0 : q.toList.isEmpty
  · have FN0 : Hid (Fnd q false ByteArray.empty (Envp.look ((P.take 0).map (·.data.toList)) q.data.toList)) := Lib.hid rfl
    go_enter Tryd.func43, Tryd.ntmps43
    go_wp2
    go_loopg [8, 9, 10] (P.length) (fun g v8 v9 v10 wr => ∃ (b : Bool) (s : ByteArray) (k : Nat), v8 = .string s ∧ v9 = .bool b ∧ v10 = .int .i64 k ∧ (k : Int) ≤ (P.length : Int) ∧ P.length - k ≤ g ∧ Hid (Fnd q b s (Envp.look ((P.take k).map (·.data.toList)) q.data.toList)) ∧ Hid (Below w.heap.size w wr))
    case atStart => exact ⟨false, ByteArray.empty, 0, rfl, rfl, rfl, by omega, by omega, FN0, Lib.hid (Below.refl _ _)⟩
    case round =>
      clear FN0
      obtain ⟨bf, sf, k, rfl, rfl, rfl, hk, hg, FN, BW⟩ := hrel
      by_cases hlt : (k : Int) < (P.length : Int)
      · have hkn : k < P.length := by omega
        obtain ⟨bb, off, rfl, hcell⟩ := texts_cells (texts_below HT.out BW.out) (by rintro rfl; simp at hkn)
        have hx := hcell k hkn
        have hsz := HS.out.2 k hkn
        obtain ⟨p, hp⟩ : ∃ p, p = P.getD k ByteArray.empty := ⟨_, rfl⟩
        rw [← hp] at hx hsz
        clear hcell
        have EQ := Lib.hid (fun W => eq68 p W (by omega))
        by_cases c0 : Envp.eqAt p.data.toList ≤ 0
        · have FN2 := Lib.hid (fnd_same hkn hp (name_no0 c0) FN.out)
          generalize Envp.eqAt p.data.toList = ee at EQ c0
          clear hp FN
          go_wp2_with (first | (go_at_call 68; go_must (refine (EQ.out _).mono ?_); rintro e w' ⟨rfl, rfl⟩))
          go_roundg (P.length - (k + 1))
          case measure => omega
          case rel => exact ⟨bf, sf, k + 1, rfl, rfl, by go_num, by omega, Nat.le_refl _, FN2, BW⟩
        · obtain ⟨kk, hkk⟩ : ∃ kk : Nat, Envp.eqAt p.data.toList = (kk : Int) := ⟨(Envp.eqAt p.data.toList).toNat, by omega⟩
          have hpos : 0 < kk := by omega
          have hle : kk + 1 ≤ p.size := by
            have := (Envp.split_of hkk).2.2
            have hl : p.data.toList.length = p.size := by simp
            omega
          have hnm := name_kk (q := q) hpos hkk
          have hsize := fun h => name_size (q := q) hkk h
          rw [hkk] at EQ
          have p0 : (0 : Int) ≤ (kk : Int) := by omega
          have pp : ¬ (kk : Int) ≤ 0 := by omega
          have p1 : (kk : Int) ≤ (p.size : Int) := by omega
          have p2 : (kk : Int) + 1 ≤ (p.size : Int) := by omega
          have p3 : (0 : Int) ≤ (kk : Int) + 1 := by omega
          have p4 : ((kk : Int) + 1).toNat = kk + 1 := by omega
          have hes : (p.extract 0 kk).size ≤ 1073741824 := by rw [ByteArray.size_extract]; omega
          have NE := Lib.hid (fun W r hr => nameEq70 (p.extract 0 kk) q W r hr hes)
          clear hes
          cases c2 : ((p.extract 0 kk).toList == q.toList) with
          | true =>
            rw [c2] at hnm
            have e := hsize c2
            have FN2 : Hid (Fnd q true (p.extract (kk + 1) p.size) (Envp.look ((P.take (k + 1)).map (·.data.toList)) q.data.toList)) := by rw [e]; exact Lib.hid (fnd_new hkn hp hnm)
            have N2 := Lib.hid (fun W => NE.out W true (Lib.hid c2))
            clear NE c2 hnm hsize e hkk c0 hp FN
            go_wp2_with (first | (go_at_call 68; go_must (refine (EQ.out _).mono ?_); rintro e w' ⟨rfl, rfl⟩) | (go_at_call 70; go_must (refine (N2.out _).mono ?_); rintro e w5 ⟨rfl, hB5⟩; have HB5 := Lib.hid (BW.out.trans (hB5.mono BW.out.size)); clear hB5 N2))
            go_roundg (P.length - (k + 1))
            case measure => omega
            case rel => exact ⟨true, _, k + 1, rfl, rfl, by go_num, by omega, Nat.le_refl _, FN2, (by first | exact HB5 | exact Lib.hid HB5.out.drew)⟩
          | false =>
            rw [c2] at hnm
            have FN2 := Lib.hid (fnd_same hkn hp hnm FN.out)
            have N2 := Lib.hid (fun W => NE.out W false (Lib.hid c2))
            clear NE c2 hnm hsize hkk c0 hp FN
            go_wp2_with (first | (go_at_call 68; go_must (refine (EQ.out _).mono ?_); rintro e w' ⟨rfl, rfl⟩) | (go_at_call 70; go_must (refine (N2.out _).mono ?_); rintro e w5 ⟨rfl, hB5⟩; have HB5 := Lib.hid (BW.out.trans (hB5.mono BW.out.size)); clear hB5 N2))
            go_roundg (P.length - (k + 1))
            case measure => omega
            case rel => exact ⟨bf, sf, k + 1, rfl, rfl, by go_num, by omega, Nat.le_refl _, FN2, (by first | exact HB5 | exact Lib.hid HB5.out.drew)⟩
      · have hkk : k = P.length := by omega
        have FE := FN.out
        rw [hkk, List.take_length] at FE
        have HF := Lib.hid FE
        clear FN hkk FE
        go_wp2
        go_ret2
        exact ⟨mo_mk rfl HF.out, BW.out⟩
  · have HL : Envp.look (P.map (·.data.toList)) q.data.toList = none := by
      rw [Lib.toList_data] at hq0
      rw [List.isEmpty_iff.1 hq0]; exact look_empty _
    rw [HL]
    clear HL
    go_enter Tryd.func43, Tryd.ntmps43
    go_wp2
    go_ret2
    exact ⟨mo_mk rfl rfl, Below.refl _ _⟩
end Go.Proofs.YthihppocokkoiaaDoor
