/-
  The walks of the printer's spaces, of the flush, and of the making of a printer. Conditions: those in each theorem.
-/
import Derived.Test.YtonhphjejlidiaaPw
namespace Go.Proofs.Ytonhphjejlidiaa
set_option linter.unusedVariables false
open Go.Shelf Go.RowKit Go.Lib

theorem info134 : ∃ i, Try.prog.info? 134 = some i ∧ i.methods.find? (fun m => m.name == "Flush") = some ⟨ "Flush", 93, #[⟨81, 0, true⟩], some (126, true)⟩ := by
  have h1 : (Try.prog.info? 134).bind (fun i => i.methods.find? (fun m => m.name == "Flush")) = some ⟨ "Flush", 93, #[⟨81, 0, true⟩], some (126, true)⟩ := by kernel_rfl
  cases h : Try.prog.info? 134 with
  | none => rw [h] at h1; cases h1
  | some i => rw [h] at h1; exact ⟨i, rfl, h1⟩
set_option maxRecDepth 20000 in
theorem m_flushT (p k : Nat) (w : World) (c2 : w.cell? ⟨p, 2, none⟩ = some (.pointer (some ⟨k, 0, none⟩))) : (method 373 134 (.pointer (some ⟨p, 2, none⟩)) "Flush").run Try.prog w = .ok (126, .pointer (some ⟨k, 0, none⟩)) w := by
  obtain ⟨i, hi, hf⟩ := info134
  have h81 := run_underlying (P := Try.prog) Try.underlying81
  have h79 := run_underlying (P := Try.prog) Try.underlying79
  have z79 := Try.sizeOf79
  have a79 := Try.isAgg79
  rw [show (373 : Nat) = 372 + 1 from rfl, method]
  simp [hi, hf, follow, h81, h79, Place.get, receiverAt, typeInfo, asAddr, fieldPlace, z79, Addr.add, loadVar, a79, Result.andThen, c2]

theorem stepF_col (kp : Bool) (f : PF) (c : UInt8) : (stepF kp f c).col ≤ f.col + 1 ∨ (stepF kp f c).col ≤ 1 := by
  cases kp
  · exact .inl (Nat.le_succ _)
  · unfold stepF addF addB
    simp only [if_true]
    split
    · exact .inr (Nat.le_refl _)
    · exact .inl (Nat.le_refl _)
theorem stepL_spaces (kp : Bool) (f : PF) (n : Nat) : stepL kp f (List.replicate n 32) = if kp then { f with col := f.col + n } else f := by
  cases kp
  · rfl
  · unfold stepL; simp only [if_true, addL_spaces]

/-- the state j spaces on -/
structure AtS (B b k r p tw : Nat) (kp : Bool) (out : List UInt8) (f : PF) (v v' : Value) (w wr : World) (j : Nat) : Prop where
  ps : PS B b k r p tw kp (out ++ List.replicate j 32) (stepL kp f (List.replicate j 32)) v' wr
  fr : FrS (S4 b k r p) v v' w wr

theorem AtS.step {B b k r p tw : Nat} {kp : Bool} {out : List UInt8} {f : PF} {v v' v2 : Value} {w wr w2 : World} {j : Nat} (h : AtS B b k r p tw kp out f v v' w wr j) (h1 : PS B b k r p tw kp (out ++ List.replicate j 32 ++ [32]) (stepF kp (stepL kp f (List.replicate j 32)) 32) v2 w2) (h2 : FrS (S4 b k r p) v' v2 wr w2) : AtS B b k r p tw kp out f v v2 w w2 (j + 1) := by
  refine ⟨?_, h.fr.trans h2⟩
  rw [List.replicate_succ', ← List.append_assoc, ← stepL_snoc]
  exact h1

set_option maxRecDepth 20000 in
set_option maxHeartbeats 4000000 in
theorem spaces55 (B b k r p tw : Nat) (kp : Bool) (out : List UInt8) (f : PF) (v : Value) (n : Nat) (w : World) (h : PS B b k r p tw kp out f v w) (hl : out.length + n + 4096 ≤ 1073741824) (hc : f.col + n ≤ 1073741824) :
    Calls Try.prog 55 #[.pointer (some ⟨p, 0, none⟩), .int .u64 n] w (PDone B b k r p tw kp (out ++ List.replicate n 32) (stepL kp f (List.replicate n 32)) v w) := by
  have A0 : Hid (AtS B b k r p tw kp out f v v w w 0) := Lib.hid ⟨by rw [List.replicate_zero, List.append_nil, stepL_nil]; exact h, FrS.refl _ _ _⟩
  have hn : (n : Int) ≤ 1073741824 := by omega
  clear h
  go_enter Try.func55, Try.ntmps55
  go_wp2
  go_loopg [5] (n) (fun g v5 wr => ∃ (j : Nat) (v' : Value), v5 = .int .u64 j ∧ (j : Int) ≤ (n : Int) ∧ n - j ≤ g ∧ Hid (AtS B b k r p tw kp out f v v' w wr j))
  case atStart => exact ⟨0, v, rfl, by omega, by omega, A0⟩
  case round =>
    clear A0
    obtain ⟨j, v', rfl, hj, hg, AT⟩ := hrel
    by_cases hlt : (j : Int) < (n : Int)
    · have hjn : j < n := by omega
      have hcol : (stepL kp f (List.replicate j 32)).col ≤ 1073741824 := by rw [stepL_spaces]; cases kp <;> simp <;> omega
      have hlen : (out ++ List.replicate j 32).length + 4096 ≤ 1073741824 := by rw [List.length_append, List.length_replicate]; omega
      cases kp
      · have c0 : wr.cell? ⟨p, 0, none⟩ = some (.iface 79 (.pointer (some ⟨k, 0, none⟩))) := by rw [AT.out.ps.c]; rfl
        have WB := Lib.hid (byte129 B b k r p tw _ _ v' 32 wr AT.out.ps hlen)
        have mm := m_byteF k
        go_wp2_with (go_at_call 129; refine WB.out.mono ?_; rintro e w1 ⟨rfl, v2, h1, h2⟩; have A1 := Lib.hid (AT.out.step h1 h2); clear h1 h2 WB)
        go_roundg (n - (j + 1))
        case measure => omega
        case rel => exact ⟨j + 1, v2, by go_num, by omega, Nat.le_refl _, A1⟩
      · have c0 : wr.cell? ⟨p, 0, none⟩ = some (.iface 134 (.pointer (some ⟨p, 2, none⟩))) := by rw [AT.out.ps.c]; rfl
        have WB := Lib.hid (byte142 B b k r p tw _ _ v' 32 wr AT.out.ps hlen hcol)
        have mm := m_byteT p
        go_wp2_with (go_at_call 142; refine WB.out.mono ?_; rintro e w1 ⟨rfl, v2, h1, h2⟩; have A1 := Lib.hid (AT.out.step h1 h2); clear h1 h2 WB)
        go_roundg (n - (j + 1))
        case measure => omega
        case rel => exact ⟨j + 1, v2, by go_num, by omega, Nat.le_refl _, A1⟩
    · have hjn : j = n := by omega
      have A1 := AT.out
      rw [hjn] at A1
      have A2 := Lib.hid A1
      clear A1 AT hjn
      go_wp2
      go_end0
      exact ⟨rfl, v', A2.out.ps, A2.out.fr⟩

set_option maxRecDepth 20000 in
theorem call27 (B b k r p tw : Nat) (kp : Bool) (out : List UInt8) (f : PF) (v : Value) (n : Nat) (w : World) (h : PS B b k r p tw kp out f v w) (hl : out.length + n + 4096 ≤ 1073741824) (hc : f.col + n ≤ 1073741824) :
    Calls Try.prog 27 #[.pointer (some ⟨p, 0, none⟩), .int .u64 n] w (PDone B b k r p tw kp (out ++ List.replicate n 32) (stepL kp f (List.replicate n 32)) v w) := by
  have S := Lib.hid (spaces55 B b k r p tw kp out f v n w h hl hc)
  clear h
  go_enter Try.func27, Try.ntmps27
  go_wp2_with (go_at_call 55; refine S.out.mono ?_; rintro e w1 ⟨rfl, h1⟩; have H1 := Lib.hid h1; clear h1 S)
  go_end0
  exact ⟨rfl, H1.out⟩

/-- what a flush hands out -/
def FlushT (B b k r p tw : Nat) (kp : Bool) (out : List UInt8) (f : PF) (v : Value) (w : World) (e : Ending) (w' : World) : Prop :=
  PEmit B b k r p tw kp out f v w (.string ⟨out.toArray⟩) e w'

set_option maxRecDepth 20000 in
set_option maxHeartbeats 4000000 in
theorem flush22 (B b k r p tw : Nat) (kp : Bool) (out : List UInt8) (f : PF) (v : Value) (w : World) (h : PS B b k r p tw kp out f v w) (hl : out.length + 4096 ≤ 1073741824) :
    Calls Try.prog 22 #[.pointer (some ⟨p, 0, none⟩), .pointer (some ⟨b, 0, none⟩)] w (FlushT B b k r p tw kp out f v w) := by
  obtain ⟨fl, pend, rc, ho, hb⟩ := h.bs
  have hlo := congrArg List.length ho
  rw [List.length_append] at hlo
  have FL := Lib.hid (bw_flush B b k r fl pend v rc w hb h.ge (by omega))
  have H := Lib.hid h
  have HO := Lib.hid ho
  cases kp
  · have c0 : w.cell? ⟨p, 0, none⟩ = some (.iface 79 (.pointer (some ⟨k, 0, none⟩))) := by rw [h.c]; rfl
    have mm : ∀ w, (method 373 79 (.pointer (some ⟨k, 0, none⟩)) "Flush").run Try.prog w = .ok (126, .pointer (some ⟨k, 0, none⟩)) w := fun w => by kernel_rfl
    clear h ho hb
    go_enter Try.func22, Try.ntmps22
    go_wp2_with (first | (go_at_call 126; refine FL.out.mono ?_; rintro e w1 ⟨rfl, v', rc', h1, h2⟩; have H1 : Hid (BS B b k r out v' w1) := Lib.hid ⟨fl ++ pend, [], rc', by rw [List.append_nil]; exact HO.out, h1⟩; have H2 := Lib.hid h2; have hbb := h1.buf.isBuffer; rw [← HO.out] at hbb; have ST := Lib.hid (Try.Buffer_String 0 b _ w1 hbb); clear h1 h2 hbb FL) | (go_at_call 53; refine ST.out.mono ?_; rintro e w2 ⟨rfl, d, hw2⟩; have HW := Lib.hid hw2; clear hw2 ST))
    go_ret
    have p1 := H.out.wrote H1.out H2.out
    refine ⟨rfl, v', ?_, ?_⟩
    · rw [HW.out]; exact p1.grew (fun _ _ => rfl)
    · rw [HW.out]; exact (H2.out.mono (fun i hi => .inl hi)).same rfl rfl rfl rfl
  · have c0 : w.cell? ⟨p, 0, none⟩ = some (.iface 134 (.pointer (some ⟨p, 2, none⟩))) := by rw [h.c]; rfl
    have c2 : w.cell? ⟨p, 2, none⟩ = some (.pointer (some ⟨k, 0, none⟩)) := by rw [h.c]; rfl
    have mm := m_flushT p k w c2
    clear h ho hb
    go_enter Try.func22, Try.ntmps22
    go_wp2_with (first | (go_at_call 126; refine FL.out.mono ?_; rintro e w1 ⟨rfl, v', rc', h1, h2⟩; have H1 : Hid (BS B b k r out v' w1) := Lib.hid ⟨fl ++ pend, [], rc', by rw [List.append_nil]; exact HO.out, h1⟩; have H2 := Lib.hid h2; have hbb := h1.buf.isBuffer; rw [← HO.out] at hbb; have ST := Lib.hid (Try.Buffer_String 0 b _ w1 hbb); clear h1 h2 hbb FL) | (go_at_call 53; refine ST.out.mono ?_; rintro e w2 ⟨rfl, d, hw2⟩; have HW := Lib.hid hw2; clear hw2 ST))
    go_ret
    have p1 := H.out.wrote H1.out H2.out
    refine ⟨rfl, v', ?_, ?_⟩
    · rw [HW.out]; exact p1.grew (fun _ _ => rfl)
    · rw [HW.out]; exact (H2.out.mono (fun i hi => .inl hi)).same rfl rfl rfl rfl
end Go.Proofs.Ytonhphjejlidiaa
