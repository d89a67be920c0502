/-
  The walks of io.WriteString into a Config's builder, of the handler, of cmdSubst and of its exported door. Conditions: those in each theorem.
-/
import Derived.Test.YtonhphjejlidiaaCs1
import Derived.Laws.EntriesVeiled
namespace Go.Proofs.Ytonhphjejlidiaa
set_option linter.unusedVariables false
open Go.Shelf Go.RowKit Go.Lib

theorem m_wstr (b : Nat) (w : World) : (method 373 104 (.pointer (some ⟨b, 11, none⟩)) "WriteString").run Try.prog w = .ok (135, .pointer (some ⟨b, 11, none⟩)) w := by kernel_rfl
theorem ta104 (b : Nat) (w : World) : (Instr.typeAssert (.iface 104 (.pointer (some ⟨b, 11, none⟩))) 117 138 true).run Try.prog w = .ok (.tuple #[.iface 104 (.pointer (some ⟨b, 11, none⟩)), .bool true]) w := by kernel_rfl

set_option maxRecDepth 20000 in
set_option maxHeartbeats 4000000 in
theorem io57 (B b : Nat) (fn : Value) (s : ByteArray) (w : World) (h : CfgS B b fn (.pointer none) (.slice none 0 0) [] w) (hs : s.size ≤ 1073741824) (hBw : B ≤ w.heap.size) :
    Calls Try.prog 57 #[.iface 104 (.pointer (some ⟨b, 11, none⟩)), .string s] w (Wrote B b fn s.data.toList w) := by
  have W1 := Lib.hid (write135 B b fn s w h hs hBw)
  have ta := ta104 b
  have mm := m_wstr b
  clear h
  go_enter Try.func57, Try.ntmps57
  go_wp2_with (go_at_call 135; refine W1.out.mono ?_; rintro e w1 ⟨rfl, v', h1, h2, h3⟩; have H1 := Lib.hid (And.intro h1 (And.intro h2 h3)); clear h1 h2 h3)
  go_ret2
  exact ⟨rfl, v', H1.out.1, H1.out.2.1, H1.out.2.2⟩

/-- what the handler leaves -/
def Handled (B b : Nat) (fn : Value) (l : List UInt8) (w : World) (e : Ending) (w' : World) : Prop :=
  e = .returned .nilIface ∧ ∃ v', CfgS B b fn (.pointer (some ⟨b, 11, none⟩)) v' l w' ∧ (l = [] → v' = .slice none 0 0) ∧ Below B w w'

set_option maxRecDepth 20000 in
set_option maxHeartbeats 4000000 in
theorem clo56 (B b bo : Nat) (fn cs : Value) (s : ByteArray) (w : World) (h : CfgS B b fn (.pointer none) (.slice none 0 0) [] w) (ho : w.cell? ⟨bo, 0, none⟩ = some (.string s)) (hs : s.size ≤ 1073741824) (hBw : B ≤ w.heap.size) :
    Calls Try.prog 56 #[.iface 104 (.pointer (some ⟨b, 11, none⟩)), cs, .pointer (some ⟨bo, 0, none⟩)] w (Handled B b fn s.data.toList w) := by
  have W1 := Lib.hid (io57 B b fn s w h hs hBw)
  clear h
  go_enter Try.func56, Try.ntmps56
  go_wp2_with (go_at_call 57; refine W1.out.mono ?_; rintro e w1 ⟨rfl, v', h1, h2, h3⟩; have H1 := Lib.hid (And.intro h1 (And.intro h2 h3)); clear h1 h2 h3)
  go_ret
  exact ⟨rfl, v', H1.out.1, H1.out.2.1, H1.out.2.2⟩

theorem noNul_len (l : List UInt8) : (noNul l).length ≤ l.length := List.length_filter_le _ _

theorem string67s (B b : Nat) (fn p v : Value) (s : ByteArray) (w : World) (h : CfgS B b fn p v s.data.toList w) (hnil : s.data.toList = [] → v = .slice none 0 0) :
    Calls Try.prog 67 #[.pointer (some ⟨b, 11, none⟩)] w fun e w' => e = .returned (.string s) ∧ Below B w w' := by
  refine (string67 B b fn p v _ w h hnil).mono ?_
  rintro e w' ⟨rfl, h2⟩
  refine ⟨?_, h2⟩
  have e : (⟨s.data.toList.toArray⟩ : ByteArray) = s := by apply ByteArray.ext; simp
  rw [e]

theorem eqf_no (bo : Nat) (w : World) : (binOp .eql 100 (.func (.func 56) #[] #[.pointer (some ⟨bo, 0, none⟩)]) .nilFunc).run Try.prog w = .ok (.bool false) w := by kernel_rfl
theorem eqf_yes (w : World) : (binOp .eql 100 .nilFunc .nilFunc).run Try.prog w = .ok (.bool true) w := by kernel_rfl

set_option maxRecDepth 20000 in
set_option maxHeartbeats 8000000 in
theorem cmd58 (B b bo : Nat) (cs : Value) (s : ByteArray) (w : World) (h : CfgS B b (.func (.func 56) #[] #[.pointer (some ⟨bo, 0, none⟩)]) (.pointer none) (.slice none 0 0) [] w) (ho : w.cell? ⟨bo, 0, none⟩ = some (.string s)) (hbo : bo < B) (hs : s.size ≤ 1073741824) (hBw : B ≤ w.heap.size) :
    Calls Try.prog 58 #[.pointer (some ⟨b, 0, none⟩), cs] w fun e w' => e = .returned (.tuple #[.string ⟨(rtrim nl (noNul s.data.toList)).toArray⟩, .nilIface]) ∧ Below B w w' := by
  have c1 : w.cell? ⟨b, 1, none⟩ = some (.func (.func 56) #[] #[.pointer (some ⟨bo, 0, none⟩)]) := by rw [h.c]; rfl
  have SB := Lib.hid (strb66 B b _ w h)
  have HO := Lib.hid ho
  have CL := Lib.hid fun (W : World) (hW : CfgS B b (.func (.func 56) #[] #[.pointer (some ⟨bo, 0, none⟩)]) (.pointer none) (.slice none 0 0) [] W) (hB : Below B w W) => clo56 B b bo _ cs s W hW (by rw [World.cell?_of_block (w := w) (hB.block bo hbo)]; exact ho) hs (Nat.le_trans hBw hB.size)
  have hn1 : (noNul s.data.toList).length ≤ 1073741824 := by
    have := noNul_len s.data.toList
    have e : s.data.toList.length = s.size := by simp
    omega
  have RP := Lib.hid fun W => rep68 s W hs
  have TR := Lib.hid fun W => trim69 ⟨(noNul s.data.toList).toArray⟩ W (by show (noNul s.data.toList).toArray.size ≤ _; rw [List.size_toArray]; exact hn1)
  obtain ⟨r2, hr2⟩ : ∃ r2 : ByteArray, r2 = ⟨(noNul s.data.toList).toArray⟩ := ⟨_, rfl⟩
  obtain ⟨r3, hr3⟩ : ∃ r3 : ByteArray, r3 = ⟨(rtrim nl (noNul s.data.toList)).toArray⟩ := ⟨_, rfl⟩
  rw [← hr3] at TR ⊢
  rw [← hr2] at TR RP
  clear h ho hn1 hr2 hr3
  have qf := eqf_no bo
  go_enter Try.func58, Try.ntmps58
  go_wp2_with (first | (go_at_call 66; refine SB.out.mono ?_; rintro e w1 ⟨rfl, h1, h2⟩; have H1 := Lib.hid (And.intro h1 h2); have d1 : w1.cell? ⟨b, 1, none⟩ = some (.func (.func 56) #[] #[.pointer (some ⟨bo, 0, none⟩)]) := (by rw [h1.c]; rfl); clear h1 h2 SB c1) | (go_at_call 56; refine (CL.out _ H1.out.1 H1.out.2).mono ?_; rintro e w2 ⟨rfl, v', h1, h2, h3⟩; have H2 := Lib.hid (And.intro h1 (And.intro h2 (H1.out.2.trans h3))); clear h1 h2 h3 CL H1 d1) | (go_at_call 67; refine (string67s B b _ _ _ s _ H2.out.1 H2.out.2.1).mono ?_; rintro e w3 ⟨rfl, h3⟩; have H3 := Lib.hid (H2.out.2.2.trans h3); clear h3 H2) | (go_at_call 68; refine (RP.out _).mono ?_; rintro e w4 ⟨rfl, h4⟩; have H4 := Lib.hid (H3.out.trans (h4.mono (Nat.le_trans hBw H3.out.size))); clear h4 H3) | (go_at_call 69; refine (TR.out _).mono ?_; rintro e w5 ⟨rfl, h5⟩; have H5 := Lib.hid (H4.out.trans (h5.mono (Nat.le_trans hBw H4.out.size))); clear h5 H4))
  go_ret2
  exact ⟨rfl, H5.out⟩

set_option maxRecDepth 20000 in
set_option maxHeartbeats 4000000 in
theorem cmd58n (B b cs : Nat) (w : World) (h : CfgS B b .nilFunc (.pointer none) (.slice none 0 0) [] w) :
    Calls Try.prog 58 #[.pointer (some ⟨b, 0, none⟩), .pointer (some ⟨cs, 0, none⟩)] w fun e w' => (∃ x, e = .returned (.tuple #[.string ⟨#[]⟩, .iface 142 x])) ∧ Below B w w' := by
  have c1 : w.cell? ⟨b, 1, none⟩ = some .nilFunc := by rw [h.c]; rfl
  have qf := eqf_yes
  clear h
  go_enter Try.func58, Try.ntmps58
  go_wp2
  go_ret2
  exact ⟨⟨_, rfl⟩, Below.refl _ _⟩

/-- what the exported door answers -/
def Door33 (w : World) (handler : Bool) (s : ByteArray) (e : Ending) (w' : World) : Prop :=
  e = .returned (.tuple #[.string (if handler = true then ⟨(rtrim nl (noNul s.data.toList)).toArray⟩ else ⟨#[]⟩), .bool handler]) ∧ Below w.heap.size w w'

theorem door_cfg (w : World) (s : ByteArray) (fn : Value) (o : Obj) : CfgS (w.heap.size + 1) (w.heap.size + 1) fn (.pointer none) (.slice none 0 0) [] (((w.alloc (.cells #[.string s] 9)).alloc (.cells (cfgC fn (.pointer none) (.slice none 0 0)) 115)).alloc o) := by
  have n2 := heap_alloc_new (w.alloc (.cells #[.string s] 9)) (.cells (cfgC fn (.pointer none) (.slice none 0 0)) 115)
  rw [show (w.alloc (.cells #[.string s] 9)).heap.size = w.heap.size + 1 by simp] at n2
  exact ⟨(Below.heap_alloc _ o _ (by simp)).trans n2, Nat.le_refl _, World.ownsRow_nil _ _ _ _, (by rintro ⟨⟩)⟩
theorem door_out (w : World) (s : ByteArray) (x o : Obj) : (((w.alloc (.cells #[.string s] 9)).alloc x).alloc o).cell? ⟨w.heap.size, 0, none⟩ = some (.string s) :=
  Lib.cell_of_heap ((Below.heap_alloc _ o _ (by simp; omega)).trans ((Below.heap_alloc _ x _ (by simp)).trans (heap_alloc_new w _))) 0
theorem below_drewN' {B : Nat} {w w1 : World} (h : Below B w w1) (n : Nat) : Below B w (w1.drewN n) := ⟨h.os, h.tape, h.output, h.size, h.block⟩

set_option maxRecDepth 20000 in
set_option maxHeartbeats 8000000 in
theorem door33 (handler : Bool) (s : ByteArray) (w : World) (hs : s.size ≤ 1073741824) : Calls Try.prog 33 #[.bool handler, .string s] w (Door33 w handler s) := by
  have mixed : Try.prog.follows .mixedOrders = true := by kernel_rfl
  cases handler
  · have S0 : Hid (∀ o, CfgS (w.heap.size + 1) (w.heap.size + 1) .nilFunc (.pointer none) (.slice none 0 0) [] (((w.alloc (.cells #[.string s] 9)).alloc (.cells (cfgC .nilFunc (.pointer none) (.slice none 0 0)) 115)).alloc o)) := Lib.hid fun o => door_cfg w s _ o
    have HB : Hid (∀ o, Below w.heap.size w (((w.alloc (.cells #[.string s] 9)).alloc (.cells (cfgC .nilFunc (.pointer none) (.slice none 0 0)) 115)).alloc o)) := Lib.hid fun o => (((Below.refl _ _).alloc (Nat.le_refl _) _).alloc (by simp) _).alloc (by simp; omega) _
    have HS : Hid (∀ o, (((w.alloc (.cells #[.string s] 9)).alloc (.cells (cfgC .nilFunc (.pointer none) (.slice none 0 0)) 115)).alloc o).cell? ⟨w.heap.size, 0, none⟩ = some (.string s)) := Lib.hid fun o => door_out w s _ o
    have HZ : Hid (∀ o, w.heap.size + 1 ≤ (((w.alloc (.cells #[.string s] 9)).alloc (.cells (cfgC .nilFunc (.pointer none) (.slice none 0 0)) 115)).alloc o).heap.size) := Lib.hid fun o => by simp
    unfold cfgC at S0 HB HS HZ
    go_enter Try.func33, Try.ntmps33
    go_wp2_with (go_at_call 58; refine (cmd58n _ _ _ _ (S0.out _)).mono ?_; rintro e w1 ⟨⟨x, rfl⟩, h1⟩; have H1 := Lib.hid ((HB.out _).trans (h1.mono (by omega))); clear h1 S0 HB HS HZ)
    go_quiet (fail)
    go_wp2
    go_ret2
    exact ⟨rfl, below_drewN' H1.out _⟩
  · have S0 : Hid (∀ o, CfgS (w.heap.size + 1) (w.heap.size + 1) (.func (.func 56) #[] #[.pointer (some ⟨w.heap.size, 0, none⟩)]) (.pointer none) (.slice none 0 0) [] (((w.alloc (.cells #[.string s] 9)).alloc (.cells (cfgC (.func (.func 56) #[] #[.pointer (some ⟨w.heap.size, 0, none⟩)]) (.pointer none) (.slice none 0 0)) 115)).alloc o)) := Lib.hid fun o => door_cfg w s _ o
    have HB : Hid (∀ o, Below w.heap.size w (((w.alloc (.cells #[.string s] 9)).alloc (.cells (cfgC (.func (.func 56) #[] #[.pointer (some ⟨w.heap.size, 0, none⟩)]) (.pointer none) (.slice none 0 0)) 115)).alloc o)) := Lib.hid fun o => (((Below.refl _ _).alloc (Nat.le_refl _) _).alloc (by simp) _).alloc (by simp; omega) _
    have HS : Hid (∀ o, (((w.alloc (.cells #[.string s] 9)).alloc (.cells (cfgC (.func (.func 56) #[] #[.pointer (some ⟨w.heap.size, 0, none⟩)]) (.pointer none) (.slice none 0 0)) 115)).alloc o).cell? ⟨w.heap.size, 0, none⟩ = some (.string s)) := Lib.hid fun o => door_out w s _ o
    have HZ : Hid (∀ o, w.heap.size + 1 ≤ (((w.alloc (.cells #[.string s] 9)).alloc (.cells (cfgC (.func (.func 56) #[] #[.pointer (some ⟨w.heap.size, 0, none⟩)]) (.pointer none) (.slice none 0 0)) 115)).alloc o).heap.size) := Lib.hid fun o => by simp
    unfold cfgC at S0 HB HS HZ
    go_enter Try.func33, Try.ntmps33
    go_wp2_with (go_at_call 58; refine (cmd58 _ _ _ _ s _ (S0.out _) (HS.out _) (by omega) hs (HZ.out _)).mono ?_; rintro e w1 ⟨rfl, h1⟩; have H1 := Lib.hid ((HB.out _).trans (h1.mono (by omega))); clear h1 S0 HB HS HZ)
    go_quiet (fail)
    go_wp2
    go_ret2
    exact ⟨rfl, below_drewN' H1.out _⟩
end Go.Proofs.Ytonhphjejlidiaa
