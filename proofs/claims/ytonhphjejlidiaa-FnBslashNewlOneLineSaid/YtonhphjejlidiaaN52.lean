/-
  The walk of the printer's bslashNewl. Conditions: those in each theorem.
-/
import Derived.Test.YtonhphjejlidiaaN51
namespace Go.Proofs.Ytonhphjejlidiaa
set_option linter.unusedVariables false
open Go.Shelf Go.RowKit Go.Lib

/-- the fields behind the text that bslashNewl writes ahead of the indent -/
def bslF (kp : Bool) (f : PF) : PF := { stepL kp (pad1 kp f) [92, 10] with line := f.line + 1 }
theorem pad1_line (kp : Bool) (f : PF) : (pad1 kp f).line = f.line ∧ (pad1 kp f).level = f.level ∧ (pad1 kp f).ind = f.ind ∧ (pad1 kp f).mini = f.mini := by
  unfold pad1; split <;> cases kp <;> exact ⟨rfl, rfl, rfl, rfl⟩
theorem bslF_facts (kp : Bool) (f : PF) : (bslF kp f).level = f.level ∧ (bslF kp f).ind = f.ind ∧ (bslF kp f).mini = f.mini ∧ (bslF kp f).line = f.line + 1 := by
  unfold bslF
  cases kp
  · exact ⟨(pad1_line false f).2.1, (pad1_line false f).2.2.1, (pad1_line false f).2.2.2, rfl⟩
  · exact ⟨(pad1_line true f).2.1, (pad1_line true f).2.2.1, (pad1_line true f).2.2.2, rfl⟩
theorem stepL_line (kp : Bool) (f : PF) (l : List UInt8) : (stepL kp f l).line = f.line := by cases kp <;> rfl
theorem stepL_ws (kp : Bool) (f : PF) (l : List UInt8) : (stepL kp f l).ws = f.ws := by cases kp <;> rfl
theorem indF_ws (kp : Bool) (f : PF) (h : f.ws ≤ 2) : (indF kp (bslF kp f)).ws ≤ 2 := by
  have h1 : (bslF kp f).ws ≤ 2 := by
    show (stepL kp (pad1 kp f) [92, 10]).ws ≤ 2
    rw [stepL_ws]
    unfold pad1
    split
    · exact Nat.le_refl _
    · exact h
  unfold indF
  split
  · exact h1
  · rw [stepL_ws]; exact h1
theorem indF_line (kp : Bool) (f : PF) : (indF kp (bslF kp f)).line = f.line + 1 := by
  unfold indF
  split
  · exact (bslF_facts kp f).2.2.2
  · rw [stepL_line]; exact (bslF_facts kp f).2.2.2
theorem stepL_col2 (kp : Bool) (f : PF) (l : List UInt8) (n : Nat) (h : l.length ≤ n) : (stepL kp f l).col ≤ f.col + 1 + n := by
  cases kp
  · show f.col ≤ _; omega
  · exact stepL_col f l n h

set_option maxRecDepth 20000 in
set_option maxHeartbeats 8000000 in
theorem bsl59_false1 (B b k r p tw : Nat) (out : List UInt8) (f : PF) (v : Value) (w : World) (h : PS B b k r p tw false out f v w) (hw : f.ws = 1) (hline : f.line ≤ 2147483648) (hlev : f.level ≤ 65536) (hind : f.ind ≤ 65536) (hmul : f.ind * f.level ≤ 65536) (hl : out.length + 80000 ≤ 1073741824) (hc : f.col + 80000 ≤ 1073741824) :
    Calls Try.prog 59 #[.pointer (some ⟨p, 0, none⟩)] w (PDone B b k r p tw false (out ++ List.replicate (padK f) 32 ++ [92, 10] ++ indL (bslF false f)) (indF false (bslF false f)) v w) := by
  have p1 := pad1_col false f
  have p2 := pad1_line false f
  have p3 := bslF_facts false f
  have p4 := stepL_col2 false (pad1 false f) [92, 10] 2 (Nat.le_refl _)
  have hF2 : bslF false f = { stepL false (pad1 false f) [92, 10] with line := f.line + 1 } := rfl
  have hpk := padK_le f
  have hc13 : w.cell? ⟨p, 13, none⟩ = some (.int .u8 f.ws) := by rw [h.c]; rfl
  have e1 : pad1 false f = { stepF false f 32 with ws := 2 } := by unfold pad1; rw [if_pos hw]
  have e2 : padK f = 1 := by unfold padK; rw [if_pos hw]
  rw [hw] at hc13
  obtain ⟨F1, hF1⟩ : ∃ F1, F1 = pad1 false f := ⟨_, rfl⟩
  obtain ⟨F2, hF2'⟩ : ∃ F2, F2 = bslF false f := ⟨_, rfl⟩
  obtain ⟨o1, ho1⟩ : ∃ o1, o1 = out ++ List.replicate (padK f) 32 := ⟨_, rfl⟩
  have hlo : o1.length ≤ out.length + 1 := by rw [ho1]; simp; exact hpk
  rw [← hF2', ← ho1]
  rw [← hF1] at p1 p2 p4 hF2 e1
  rw [← hF2'] at p3 hF2
  have hlin : F1.line = f.line := p2.1
  have HL := Lib.hid hlin
  have e3 : o1 = out ++ [32] := by rw [ho1, e2]; rfl
  have SP := Lib.hid (space52 B b k r p tw false out f v w h (by omega) (by omega))
  rw [← e1, ← e3] at SP
  have BD : Hid (o1.length + 2 + 4096 ≤ 1073741824 ∧ F1.col + 2 + 1 ≤ 1073741824 ∧ f.line ≤ 2147483648) := Lib.hid ⟨by omega, by omega, hline⟩
  have IN := Lib.hid fun (v1 : Value) (W : World) (hW : PS B b k r p tw false (o1 ++ [92, 10]) F2 v1 W) => ind70 B b k r p tw false (o1 ++ [92, 10]) F2 v1 W hW (by rw [p3.1]; exact hlev) (by rw [p3.2.1]; exact hind) (by rw [p3.1, p3.2.1]; exact hmul) (by simp; omega) (by rw [hF2]; show (stepL false F1 [92, 10]).col + _ ≤ _; omega)
  have H2 := Lib.hid hF2
  have hln : (F1.line : Int) ≤ 2147483648 := by omega
  clear h p1 p2 p3 p4 hF2 hF2' hpk hF1 ho1 hlo hlin e1 e2 e3 hw hline hlev hind hmul hl hc
  have mm := m_strF k
  go_enter Try.func59, Try.ntmps59
  go_wp2_with (go_at_call 52; refine SP.out.mono ?_; rintro e w1 ⟨rfl, v1, t1, t2⟩; have A0 := Lib.hid (And.intro t1 t2); clear t1 t2 SP hc13; have c0 : w1.cell? ⟨p, 0, none⟩ = some (.iface 79 (.pointer (some ⟨k, 0, none⟩))) := (by rw [A0.out.1.c]; rfl))
  go_wp2_with (go_at_call 130; refine (str130 B b k r p tw _ _ _ ⟨#[92, 10]⟩ _ A0.out.1 BD.out.1).mono ?_; rintro e w2 ⟨rfl, v2, t1, t2⟩; have A1 : Hid (PS B b k r p tw false (o1 ++ [92, 10]) (stepL false F1 [92, 10]) v2 w2 ∧ FrS (S4 b k r p) v v2 w w2) := Lib.hid (And.intro t1 (A0.out.2.trans t2)); clear t1 t2 A0 c0; have c19 : w2.cell? ⟨p, 19, none⟩ = some (.int .u64 F1.line) := (by rw [A1.out.1.c]; show some (Value.int .u64 ((stepL false F1 [92, 10]).line : Int)) = _; rw [stepL_line]); have f19 := A1.out.1.f 19)
  go_wp2_with (go_at_call 70; refine (IN.out v2 _ ?_).mono ?_)
  · rw [H2.out]
    refine A1.out.1.set 19 _ _ ?_
    rw [← HL.out]
    rfl
  rintro e w3 ⟨rfl, v3, t1, t2⟩
  have A2 := Lib.hid (And.intro t1 ((fr4_set A1.out.2 19 _).trans t2))
  clear t1 t2 A1 c19 f19
  go_wp2
  go_end0
  exact ⟨rfl, v3, A2.out.1, A2.out.2⟩

set_option maxRecDepth 20000 in
set_option maxHeartbeats 8000000 in
theorem bsl59_false0 (B b k r p tw : Nat) (out : List UInt8) (f : PF) (v : Value) (w : World) (h : PS B b k r p tw false out f v w) (hw : ¬ f.ws = 1) (hws : f.ws ≤ 2) (hline : f.line ≤ 2147483648) (hlev : f.level ≤ 65536) (hind : f.ind ≤ 65536) (hmul : f.ind * f.level ≤ 65536) (hl : out.length + 80000 ≤ 1073741824) (hc : f.col + 80000 ≤ 1073741824) :
    Calls Try.prog 59 #[.pointer (some ⟨p, 0, none⟩)] w (PDone B b k r p tw false (out ++ List.replicate (padK f) 32 ++ [92, 10] ++ indL (bslF false f)) (indF false (bslF false f)) v w) := by
  have p1 := pad1_col false f
  have p2 := pad1_line false f
  have p3 := bslF_facts false f
  have p4 := stepL_col2 false (pad1 false f) [92, 10] 2 (Nat.le_refl _)
  have hF2 : bslF false f = { stepL false (pad1 false f) [92, 10] with line := f.line + 1 } := rfl
  have hpk := padK_le f
  have hc13 : w.cell? ⟨p, 13, none⟩ = some (.int .u8 f.ws) := by rw [h.c]; rfl
  have e1 : pad1 false f = f := by unfold pad1; rw [if_neg hw]
  have e2 : padK f = 0 := by unfold padK; rw [if_neg hw]
  have hwn : ¬ (f.ws : Int) = 1 := by omega
  have hwb : (f.ws : Int) ≤ 2 := by omega
  obtain ⟨F1, hF1⟩ : ∃ F1, F1 = pad1 false f := ⟨_, rfl⟩
  obtain ⟨F2, hF2'⟩ : ∃ F2, F2 = bslF false f := ⟨_, rfl⟩
  obtain ⟨o1, ho1⟩ : ∃ o1, o1 = out ++ List.replicate (padK f) 32 := ⟨_, rfl⟩
  have hlo : o1.length ≤ out.length + 1 := by rw [ho1]; simp; exact hpk
  rw [← hF2', ← ho1]
  rw [← hF1] at p1 p2 p4 hF2 e1
  rw [← hF2'] at p3 hF2
  have hlin : F1.line = f.line := p2.1
  have HL := Lib.hid hlin
  have e3 : o1 = out := by rw [ho1, e2, List.replicate_zero, List.append_nil]
  have A0 : Hid (PS B b k r p tw false o1 F1 v w ∧ FrS (S4 b k r p) v v w w) := Lib.hid (by rw [e1, e3]; exact ⟨h, FrS.refl _ _ _⟩)
  have BD : Hid (o1.length + 2 + 4096 ≤ 1073741824 ∧ F1.col + 2 + 1 ≤ 1073741824 ∧ f.line ≤ 2147483648) := Lib.hid ⟨by omega, by omega, hline⟩
  have IN := Lib.hid fun (v1 : Value) (W : World) (hW : PS B b k r p tw false (o1 ++ [92, 10]) F2 v1 W) => ind70 B b k r p tw false (o1 ++ [92, 10]) F2 v1 W hW (by rw [p3.1]; exact hlev) (by rw [p3.2.1]; exact hind) (by rw [p3.1, p3.2.1]; exact hmul) (by simp; omega) (by rw [hF2]; show (stepL false F1 [92, 10]).col + _ ≤ _; omega)
  have H2 := Lib.hid hF2
  have hln : (F1.line : Int) ≤ 2147483648 := by omega
  clear h p1 p2 p3 p4 hF2 hF2' hpk hF1 ho1 hlo hlin e1 e2 e3 hw hline hlev hind hmul hl hc
  have mm := m_strF k
  go_enter Try.func59, Try.ntmps59
  have c0 : w.cell? ⟨p, 0, none⟩ = some (.iface 79 (.pointer (some ⟨k, 0, none⟩))) := by rw [A0.out.1.c]; rfl
  go_wp2_with (go_at_call 130; refine (str130 B b k r p tw _ _ _ ⟨#[92, 10]⟩ _ A0.out.1 BD.out.1).mono ?_; rintro e w2 ⟨rfl, v2, t1, t2⟩; have A1 : Hid (PS B b k r p tw false (o1 ++ [92, 10]) (stepL false F1 [92, 10]) v2 w2 ∧ FrS (S4 b k r p) v v2 w w2) := Lib.hid (And.intro t1 (A0.out.2.trans t2)); clear t1 t2 A0 c0; have c19 : w2.cell? ⟨p, 19, none⟩ = some (.int .u64 F1.line) := (by rw [A1.out.1.c]; show some (Value.int .u64 ((stepL false F1 [92, 10]).line : Int)) = _; rw [stepL_line]); have f19 := A1.out.1.f 19)
  go_wp2_with (go_at_call 70; refine (IN.out v2 _ ?_).mono ?_)
  · rw [H2.out]
    refine A1.out.1.set 19 _ _ ?_
    rw [← HL.out]
    rfl
  rintro e w3 ⟨rfl, v3, t1, t2⟩
  have A2 := Lib.hid (And.intro t1 ((fr4_set A1.out.2 19 _).trans t2))
  clear t1 t2 A1 c19 f19
  go_wp2
  go_end0
  exact ⟨rfl, v3, A2.out.1, A2.out.2⟩

set_option maxRecDepth 20000 in
set_option maxHeartbeats 8000000 in
theorem bsl59_true1 (B b k r p tw : Nat) (out : List UInt8) (f : PF) (v : Value) (w : World) (h : PS B b k r p tw true out f v w) (hw : f.ws = 1) (hline : f.line ≤ 2147483648) (hlev : f.level ≤ 65536) (hind : f.ind ≤ 65536) (hmul : f.ind * f.level ≤ 65536) (hl : out.length + 80000 ≤ 1073741824) (hc : f.col + 80000 ≤ 1073741824) :
    Calls Try.prog 59 #[.pointer (some ⟨p, 0, none⟩)] w (PDone B b k r p tw true (out ++ List.replicate (padK f) 32 ++ [92, 10] ++ indL (bslF true f)) (indF true (bslF true f)) v w) := by
  have p1 := pad1_col true f
  have p2 := pad1_line true f
  have p3 := bslF_facts true f
  have p4 := stepL_col2 true (pad1 true f) [92, 10] 2 (Nat.le_refl _)
  have hF2 : bslF true f = { stepL true (pad1 true f) [92, 10] with line := f.line + 1 } := rfl
  have hpk := padK_le f
  have hc13 : w.cell? ⟨p, 13, none⟩ = some (.int .u8 f.ws) := by rw [h.c]; rfl
  have e1 : pad1 true f = { stepF true f 32 with ws := 2 } := by unfold pad1; rw [if_pos hw]
  have e2 : padK f = 1 := by unfold padK; rw [if_pos hw]
  rw [hw] at hc13
  obtain ⟨F1, hF1⟩ : ∃ F1, F1 = pad1 true f := ⟨_, rfl⟩
  obtain ⟨F2, hF2'⟩ : ∃ F2, F2 = bslF true f := ⟨_, rfl⟩
  obtain ⟨o1, ho1⟩ : ∃ o1, o1 = out ++ List.replicate (padK f) 32 := ⟨_, rfl⟩
  have hlo : o1.length ≤ out.length + 1 := by rw [ho1]; simp; exact hpk
  rw [← hF2', ← ho1]
  rw [← hF1] at p1 p2 p4 hF2 e1
  rw [← hF2'] at p3 hF2
  have hlin : F1.line = f.line := p2.1
  have HL := Lib.hid hlin
  have e3 : o1 = out ++ [32] := by rw [ho1, e2]; rfl
  have SP := Lib.hid (space52 B b k r p tw true out f v w h (by omega) (by omega))
  rw [← e1, ← e3] at SP
  have BD : Hid (o1.length + 2 + 4096 ≤ 1073741824 ∧ F1.col + 2 + 1 ≤ 1073741824 ∧ f.line ≤ 2147483648) := Lib.hid ⟨by omega, by omega, hline⟩
  have IN := Lib.hid fun (v1 : Value) (W : World) (hW : PS B b k r p tw true (o1 ++ [92, 10]) F2 v1 W) => ind70 B b k r p tw true (o1 ++ [92, 10]) F2 v1 W hW (by rw [p3.1]; exact hlev) (by rw [p3.2.1]; exact hind) (by rw [p3.1, p3.2.1]; exact hmul) (by simp; omega) (by rw [hF2]; show (stepL true F1 [92, 10]).col + _ ≤ _; omega)
  have H2 := Lib.hid hF2
  have hln : (F1.line : Int) ≤ 2147483648 := by omega
  clear h p1 p2 p3 p4 hF2 hF2' hpk hF1 ho1 hlo hlin e1 e2 e3 hw hline hlev hind hmul hl hc
  have mm := m_strT p
  go_enter Try.func59, Try.ntmps59
  go_wp2_with (go_at_call 52; refine SP.out.mono ?_; rintro e w1 ⟨rfl, v1, t1, t2⟩; have A0 := Lib.hid (And.intro t1 t2); clear t1 t2 SP hc13; have c0 : w1.cell? ⟨p, 0, none⟩ = some (.iface 134 (.pointer (some ⟨p, 2, none⟩))) := (by rw [A0.out.1.c]; rfl))
  go_wp2_with (go_at_call 143; refine (str143 B b k r p tw _ _ _ ⟨#[92, 10]⟩ _ A0.out.1 BD.out.1 BD.out.2.1).mono ?_; rintro e w2 ⟨rfl, v2, t1, t2⟩; have A1 : Hid (PS B b k r p tw true (o1 ++ [92, 10]) (stepL true F1 [92, 10]) v2 w2 ∧ FrS (S4 b k r p) v v2 w w2) := Lib.hid (And.intro t1 (A0.out.2.trans t2)); clear t1 t2 A0 c0; have c19 : w2.cell? ⟨p, 19, none⟩ = some (.int .u64 F1.line) := (by rw [A1.out.1.c]; show some (Value.int .u64 ((stepL true F1 [92, 10]).line : Int)) = _; rw [stepL_line]); have f19 := A1.out.1.f 19)
  go_wp2_with (go_at_call 70; refine (IN.out v2 _ ?_).mono ?_)
  · rw [H2.out]
    refine A1.out.1.set 19 _ _ ?_
    rw [← HL.out]
    rfl
  rintro e w3 ⟨rfl, v3, t1, t2⟩
  have A2 := Lib.hid (And.intro t1 ((fr4_set A1.out.2 19 _).trans t2))
  clear t1 t2 A1 c19 f19
  go_wp2
  go_end0
  exact ⟨rfl, v3, A2.out.1, A2.out.2⟩

set_option maxRecDepth 20000 in
set_option maxHeartbeats 8000000 in
theorem bsl59_true0 (B b k r p tw : Nat) (out : List UInt8) (f : PF) (v : Value) (w : World) (h : PS B b k r p tw true out f v w) (hw : ¬ f.ws = 1) (hws : f.ws ≤ 2) (hline : f.line ≤ 2147483648) (hlev : f.level ≤ 65536) (hind : f.ind ≤ 65536) (hmul : f.ind * f.level ≤ 65536) (hl : out.length + 80000 ≤ 1073741824) (hc : f.col + 80000 ≤ 1073741824) :
    Calls Try.prog 59 #[.pointer (some ⟨p, 0, none⟩)] w (PDone B b k r p tw true (out ++ List.replicate (padK f) 32 ++ [92, 10] ++ indL (bslF true f)) (indF true (bslF true f)) v w) := by
  have p1 := pad1_col true f
  have p2 := pad1_line true f
  have p3 := bslF_facts true f
  have p4 := stepL_col2 true (pad1 true f) [92, 10] 2 (Nat.le_refl _)
  have hF2 : bslF true f = { stepL true (pad1 true f) [92, 10] with line := f.line + 1 } := rfl
  have hpk := padK_le f
  have hc13 : w.cell? ⟨p, 13, none⟩ = some (.int .u8 f.ws) := by rw [h.c]; rfl
  have e1 : pad1 true f = f := by unfold pad1; rw [if_neg hw]
  have e2 : padK f = 0 := by unfold padK; rw [if_neg hw]
  have hwn : ¬ (f.ws : Int) = 1 := by omega
  have hwb : (f.ws : Int) ≤ 2 := by omega
  obtain ⟨F1, hF1⟩ : ∃ F1, F1 = pad1 true f := ⟨_, rfl⟩
  obtain ⟨F2, hF2'⟩ : ∃ F2, F2 = bslF true f := ⟨_, rfl⟩
  obtain ⟨o1, ho1⟩ : ∃ o1, o1 = out ++ List.replicate (padK f) 32 := ⟨_, rfl⟩
  have hlo : o1.length ≤ out.length + 1 := by rw [ho1]; simp; exact hpk
  rw [← hF2', ← ho1]
  rw [← hF1] at p1 p2 p4 hF2 e1
  rw [← hF2'] at p3 hF2
  have hlin : F1.line = f.line := p2.1
  have HL := Lib.hid hlin
  have e3 : o1 = out := by rw [ho1, e2, List.replicate_zero, List.append_nil]
  have A0 : Hid (PS B b k r p tw true o1 F1 v w ∧ FrS (S4 b k r p) v v w w) := Lib.hid (by rw [e1, e3]; exact ⟨h, FrS.refl _ _ _⟩)
  have BD : Hid (o1.length + 2 + 4096 ≤ 1073741824 ∧ F1.col + 2 + 1 ≤ 1073741824 ∧ f.line ≤ 2147483648) := Lib.hid ⟨by omega, by omega, hline⟩
  have IN := Lib.hid fun (v1 : Value) (W : World) (hW : PS B b k r p tw true (o1 ++ [92, 10]) F2 v1 W) => ind70 B b k r p tw true (o1 ++ [92, 10]) F2 v1 W hW (by rw [p3.1]; exact hlev) (by rw [p3.2.1]; exact hind) (by rw [p3.1, p3.2.1]; exact hmul) (by simp; omega) (by rw [hF2]; show (stepL true F1 [92, 10]).col + _ ≤ _; omega)
  have H2 := Lib.hid hF2
  have hln : (F1.line : Int) ≤ 2147483648 := by omega
  clear h p1 p2 p3 p4 hF2 hF2' hpk hF1 ho1 hlo hlin e1 e2 e3 hw hline hlev hind hmul hl hc
  have mm := m_strT p
  go_enter Try.func59, Try.ntmps59
  have c0 : w.cell? ⟨p, 0, none⟩ = some (.iface 134 (.pointer (some ⟨p, 2, none⟩))) := by rw [A0.out.1.c]; rfl
  go_wp2_with (go_at_call 143; refine (str143 B b k r p tw _ _ _ ⟨#[92, 10]⟩ _ A0.out.1 BD.out.1 BD.out.2.1).mono ?_; rintro e w2 ⟨rfl, v2, t1, t2⟩; have A1 : Hid (PS B b k r p tw true (o1 ++ [92, 10]) (stepL true F1 [92, 10]) v2 w2 ∧ FrS (S4 b k r p) v v2 w w2) := Lib.hid (And.intro t1 (A0.out.2.trans t2)); clear t1 t2 A0 c0; have c19 : w2.cell? ⟨p, 19, none⟩ = some (.int .u64 F1.line) := (by rw [A1.out.1.c]; show some (Value.int .u64 ((stepL true F1 [92, 10]).line : Int)) = _; rw [stepL_line]); have f19 := A1.out.1.f 19)
  go_wp2_with (go_at_call 70; refine (IN.out v2 _ ?_).mono ?_)
  · rw [H2.out]
    refine A1.out.1.set 19 _ _ ?_
    rw [← HL.out]
    rfl
  rintro e w3 ⟨rfl, v3, t1, t2⟩
  have A2 := Lib.hid (And.intro t1 ((fr4_set A1.out.2 19 _).trans t2))
  clear t1 t2 A1 c19 f19
  go_wp2
  go_end0
  exact ⟨rfl, v3, A2.out.1, A2.out.2⟩

theorem bsl59 (B b k r p tw : Nat) (kp : Bool) (out : List UInt8) (f : PF) (v : Value) (w : World) (h : PS B b k r p tw kp out f v w) (hws : f.ws ≤ 2) (hline : f.line ≤ 2147483648) (hlev : f.level ≤ 65536) (hind : f.ind ≤ 65536) (hmul : f.ind * f.level ≤ 65536) (hl : out.length + 80000 ≤ 1073741824) (hc : f.col + 80000 ≤ 1073741824) :
    Calls Try.prog 59 #[.pointer (some ⟨p, 0, none⟩)] w (PDone B b k r p tw kp (out ++ List.replicate (padK f) 32 ++ [92, 10] ++ indL (bslF kp f)) (indF kp (bslF kp f)) v w) := by
  by_cases hw : f.ws = 1
  · cases kp
    · exact bsl59_false1 B b k r p tw out f v w h hw hline hlev hind hmul hl hc
    · exact bsl59_true1 B b k r p tw out f v w h hw hline hlev hind hmul hl hc
  · cases kp
    · exact bsl59_false0 B b k r p tw out f v w h hw hws hline hlev hind hmul hl hc
    · exact bsl59_true0 B b k r p tw out f v w h hw hws hline hlev hind hmul hl hc
end Go.Proofs.Ytonhphjejlidiaa
