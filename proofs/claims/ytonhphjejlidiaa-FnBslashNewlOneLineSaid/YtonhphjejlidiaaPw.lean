/-
  The walks of the printer's space, spaces, and of the exported doors to its fields. Conditions: those in each theorem.
-/
import Derived.Test.YtonhphjejlidiaaCs
namespace Go.Proofs.Ytonhphjejlidiaa
set_option linter.unusedVariables false
open Go.Shelf Go.RowKit Go.Lib

theorem m_byteF (k : Nat) (w : World) : (method 373 79 (.pointer (some ⟨k, 0, none⟩)) "WriteByte").run Try.prog w = .ok (129, .pointer (some ⟨k, 0, none⟩)) w := by kernel_rfl
theorem m_byteT (p : Nat) (w : World) : (method 373 134 (.pointer (some ⟨p, 2, none⟩)) "WriteByte").run Try.prog w = .ok (142, .pointer (some ⟨p, 2, none⟩)) w := by kernel_rfl
theorem m_strF (k : Nat) (w : World) : (method 373 79 (.pointer (some ⟨k, 0, none⟩)) "WriteString").run Try.prog w = .ok (130, .pointer (some ⟨k, 0, none⟩)) w := by kernel_rfl
theorem m_strT (p : Nat) (w : World) : (method 373 134 (.pointer (some ⟨p, 2, none⟩)) "WriteString").run Try.prog w = .ok (143, .pointer (some ⟨p, 2, none⟩)) w := by kernel_rfl

theorem fr_set {p : Nat} (w : World) (i : Nat) (x : Value) (v : Value) : FrS (P1 p) v v w (w.setCell ⟨p, i, none⟩ x) := FrS.setCell (S := P1 p) (FrS.refl _ v w) (a := ⟨p, i, none⟩) rfl x
/-- a store into one of the printer's cells -/
theorem PS.set {B b k r p tw : Nat} {kp : Bool} {out : List UInt8} {f : PF} {v : Value} {w : World} (h : PS B b k r p tw kp out f v w) (i : Nat) (x : Value) (f2 : PF) (hx : (pcells kp k p tw f).setIfInBounds i x = pcells kp k p tw f2) : PS B b k r p tw kp out f2 v (w.setCell ⟨p, i, none⟩ x) :=
  h.turned (by have := Lib.heap_setCell_same (i := i) h.pr x; rw [hx] at this; exact this) (fun v => fr_set w i x v)
theorem fr4_set {b k r p : Nat} {v v' : Value} {w w' : World} (h : FrS (S4 b k r p) v v' w w') (i : Nat) (x : Value) : FrS (S4 b k r p) v v' w (w'.setCell ⟨p, i, none⟩ x) := h.setCell (a := ⟨p, i, none⟩) (.inr rfl) x

/-- what a call without a result leaves -/
def PDone (B b k r p tw : Nat) (kp : Bool) (out : List UInt8) (f : PF) (v : Value) (w : World) (e : Ending) (w' : World) : Prop := PEmit B b k r p tw kp out f v w (.tuple #[]) e w'

set_option maxRecDepth 20000 in
set_option maxHeartbeats 2000000 in
theorem space52 (B b k r p tw : Nat) (kp : Bool) (out : List UInt8) (f : PF) (v : Value) (w : World) (h : PS B b k r p tw kp out f v w) (hl : out.length + 4096 ≤ 1073741824) (hc : f.col ≤ 1073741824) :
    Calls Try.prog 52 #[.pointer (some ⟨p, 0, none⟩)] w (PDone B b k r p tw kp (out ++ [32]) { stepF kp f 32 with ws := 2 } v w) := by
  have H := Lib.hid h
  cases kp
  · have c0 : w.cell? ⟨p, 0, none⟩ = some (.iface 79 (.pointer (some ⟨k, 0, none⟩))) := by rw [h.c]; rfl
    have WB := Lib.hid (byte129 B b k r p tw out f v 32 w h hl)
    have mm := m_byteF k
    clear h
    go_enter Try.func52, Try.ntmps52
    go_wp2_with (go_at_call 129; refine WB.out.mono ?_; rintro e w1 ⟨rfl, v', h1, h2⟩; have c13 : w1.cell? ⟨p, 13, none⟩ = some (.int .u8 f.ws) := (by rw [h1.c]; rfl); have f13 := h1.f 13; have H1 := Lib.hid h1; have H2 := Lib.hid h2; clear h1 h2 WB)
    go_end0
    exact ⟨rfl, v', H1.out.set 13 _ { stepF false f 32 with ws := 2 } rfl, fr4_set H2.out 13 _⟩
  · have c0 : w.cell? ⟨p, 0, none⟩ = some (.iface 134 (.pointer (some ⟨p, 2, none⟩))) := by rw [h.c]; rfl
    have WB := Lib.hid (byte142 B b k r p tw out f v 32 w h hl hc)
    have mm := m_byteT p
    clear h
    go_enter Try.func52, Try.ntmps52
    go_wp2_with (go_at_call 142; refine WB.out.mono ?_; rintro e w1 ⟨rfl, v', h1, h2⟩; have c13 : w1.cell? ⟨p, 13, none⟩ = some (.int .u8 f.ws) := (by rw [h1.c]; rfl); have f13 := h1.f 13; have H1 := Lib.hid h1; have H2 := Lib.hid h2; clear h1 h2 WB)
    go_end0
    exact ⟨rfl, v', H1.out.set 13 _ { stepF true f 32 with ws := 2 } rfl, fr4_set H2.out 13 _⟩

set_option maxRecDepth 20000 in
theorem call20 (B b k r p tw : Nat) (kp : Bool) (out : List UInt8) (f : PF) (v : Value) (w : World) (h : PS B b k r p tw kp out f v w) (hl : out.length + 4096 ≤ 1073741824) (hc : f.col ≤ 1073741824) :
    Calls Try.prog 20 #[.pointer (some ⟨p, 0, none⟩)] w (PDone B b k r p tw kp (out ++ [32]) { stepF kp f 32 with ws := 2 } v w) := by
  have S := Lib.hid (space52 B b k r p tw kp out f v w h hl hc)
  clear h
  go_enter Try.func20, Try.ntmps20
  go_wp2_with (go_at_call 52; refine S.out.mono ?_; rintro e w1 ⟨rfl, h1⟩; have H1 := Lib.hid h1; clear h1 S)
  go_end0
  exact ⟨rfl, H1.out⟩

set_option maxRecDepth 20000 in
set_option maxHeartbeats 2000000 in
theorem write18 (B b k r p tw : Nat) (kp : Bool) (out : List UInt8) (f : PF) (v : Value) (s : ByteArray) (w : World) (h : PS B b k r p tw kp out f v w) (hl : out.length + s.size + 4096 ≤ 1073741824) (hc : f.col + s.size + 1 ≤ 1073741824) :
    Calls Try.prog 18 #[.pointer (some ⟨p, 0, none⟩), .string s] w (PDone B b k r p tw kp (out ++ s.data.toList) (stepL kp f s.data.toList) v w) := by
  cases kp
  · have c0 : w.cell? ⟨p, 0, none⟩ = some (.iface 79 (.pointer (some ⟨k, 0, none⟩))) := by rw [h.c]; rfl
    have WB := Lib.hid (str130 B b k r p tw out f v s w h hl)
    have mm := m_strF k
    clear h
    go_enter Try.func18, Try.ntmps18
    go_wp2_with (go_at_call 130; refine WB.out.mono ?_; rintro e w1 ⟨rfl, h1⟩; have H1 := Lib.hid h1; clear h1 WB)
    go_end0
    exact ⟨rfl, H1.out⟩
  · have c0 : w.cell? ⟨p, 0, none⟩ = some (.iface 134 (.pointer (some ⟨p, 2, none⟩))) := by rw [h.c]; rfl
    have WB := Lib.hid (str143 B b k r p tw out f v s w h hl hc)
    have mm := m_strT p
    clear h
    go_enter Try.func18, Try.ntmps18
    go_wp2_with (go_at_call 143; refine WB.out.mono ?_; rintro e w1 ⟨rfl, h1⟩; have H1 := Lib.hid h1; clear h1 WB)
    go_end0
    exact ⟨rfl, H1.out⟩

set_option maxRecDepth 20000 in
theorem set19 (B b k r p tw : Nat) (kp : Bool) (out : List UInt8) (f : PF) (v : Value) (x : Nat) (w : World) (h : PS B b k r p tw kp out f v w) (hx : x ≤ 2) :
    Calls Try.prog 19 #[.pointer (some ⟨p, 0, none⟩), .int .u8 x] w (PDone B b k r p tw kp out { f with ws := x } v w) := by
  have c13 : w.cell? ⟨p, 13, none⟩ = some (.int .u8 f.ws) := by rw [h.c]; rfl
  have f13 := h.f 13
  have H := Lib.hid h
  have hx2 : (x : Int) ≤ 2 := by omega
  clear h
  go_enter Try.func19, Try.ntmps19
  go_wp2
  go_end0
  exact ⟨rfl, v, H.out.set 13 _ { f with ws := x } rfl, fr4_set (FrS.refl _ _ _) 13 _⟩

set_option maxRecDepth 20000 in
theorem want21 (B b k r p tw : Nat) (kp : Bool) (out : List UInt8) (f : PF) (v : Value) (w : World) (h : PS B b k r p tw kp out f v w) (hx : f.ws ≤ 2) :
    Calls Try.prog 21 #[.pointer (some ⟨p, 0, none⟩)] w fun e w' => e = .returned (.int .u8 f.ws) ∧ w' = w := by
  have c13 : w.cell? ⟨p, 13, none⟩ = some (.int .u8 f.ws) := by rw [h.c]; rfl
  have hx2 : (f.ws : Int) ≤ 2 := by omega
  clear h
  go_enter Try.func21, Try.ntmps21
  go_wp2
  go_ret
  exact ⟨rfl, rfl⟩
set_option maxRecDepth 20000 in
theorem col31 (B b k r p tw : Nat) (kp : Bool) (out : List UInt8) (f : PF) (v : Value) (w : World) (h : PS B b k r p tw kp out f v w) :
    Calls Try.prog 31 #[.pointer (some ⟨p, 0, none⟩)] w fun e w' => e = .returned (.int .i64 f.col) ∧ w' = w := by
  have c3 : w.cell? ⟨p, 3, none⟩ = some (.int .i64 f.col) := by rw [h.c]; rfl
  clear h
  go_enter Try.func31, Try.ntmps31
  go_wp2
  go_ret
  exact ⟨rfl, rfl⟩
set_option maxRecDepth 20000 in
theorem ls30 (B b k r p tw : Nat) (kp : Bool) (out : List UInt8) (f : PF) (v : Value) (w : World) (h : PS B b k r p tw kp out f v w) :
    Calls Try.prog 30 #[.pointer (some ⟨p, 0, none⟩)] w fun e w' => e = .returned (.bool f.ls) ∧ w' = w := by
  have c4 : w.cell? ⟨p, 4, none⟩ = some (.bool f.ls) := by rw [h.c]; rfl
  clear h
  go_enter Try.func30, Try.ntmps30
  go_wp2
  go_ret
  exact ⟨rfl, rfl⟩
end Go.Proofs.Ytonhphjejlidiaa
