/-
  Variants of the printer's walks for the laws, and the walk of zzAllBlanks. Conditions: those in each theorem.
-/
import Derived.Test.YtonhphjejlidiaaL4
namespace Go.Proofs.Ytonhphjejlidiaa
set_option linter.unusedVariables false
open Go.Shelf Go.RowKit Go.Lib

theorem want21x (B b k r p tw : Nat) (kp : Bool) (out : List UInt8) (f : PF) (v : Value) (w : World) (x : Nat) (h : PS B b k r p tw kp out f v w) (hx : f.ws = x) (h2 : x ≤ 2) :
    Calls Try.prog 21 #[.pointer (some ⟨p, 0, none⟩)] w fun e w' => e = .returned (.int .u8 x) ∧ w' = w := by
  subst hx
  exact want21 B b k r p tw kp out f v w h h2
theorem col31x (B b k r p tw : Nat) (kp : Bool) (out : List UInt8) (f : PF) (v : Value) (w : World) (x : Nat) (h : PS B b k r p tw kp out f v w) (hx : f.col = x) :
    Calls Try.prog 31 #[.pointer (some ⟨p, 0, none⟩)] w fun e w' => e = .returned (.int .i64 x) ∧ w' = w := by
  subst hx
  exact col31 B b k r p tw kp out f v w h
theorem ls30x (B b k r p tw : Nat) (kp : Bool) (out : List UInt8) (f : PF) (v : Value) (w : World) (x : Bool) (h : PS B b k r p tw kp out f v w) (hx : f.ls = x) :
    Calls Try.prog 30 #[.pointer (some ⟨p, 0, none⟩)] w fun e w' => e = .returned (.bool x) ∧ w' = w := by
  subst hx
  exact ls30 B b k r p tw kp out f v w h
theorem flush22t (B b k r p tw : Nat) (kp : Bool) (out : List UInt8) (f : PF) (v : Value) (w : World) (t : ByteArray) (h : PS B b k r p tw kp out f v w) (hl : out.length + 4096 ≤ 1073741824) (ht : t.data.toList = out) :
    Calls Try.prog 22 #[.pointer (some ⟨p, 0, none⟩), .pointer (some ⟨b, 0, none⟩)] w (PEmit B b k r p tw kp out f v w (.string t)) := by
  subst ht
  exact flush22 B b k r p tw kp _ f v w h hl

theorem ready_ws (kp : Bool) (ind : Nat) (l : List UInt8) : (stepL kp (readyF kp ind) l).ws = 2 := by cases kp <;> rfl
theorem step_ws (kp : Bool) (f : PF) (l : List UInt8) : (stepL kp f l).ws = f.ws := by cases kp <;> rfl
theorem ready_col (kp : Bool) (ind : Nat) (l : List UInt8) (n : Nat) (h : l.length ≤ n) : (stepL kp (readyF kp ind) l).col ≤ n + 2 := by
  cases kp
  · exact Nat.zero_le _
  · have := stepL_col (readyF true ind) l n h
    exact Nat.le_trans this (by show 1 + 1 + n ≤ _; omega)

set_option maxRecDepth 20000 in
set_option maxHeartbeats 1000000 in
theorem blanks28 (t : ByteArray) (w : World) (hs : t.size ≤ 1073741824) (h : ∀ j (hj : j < t.size), t[j] = 32) : Calls Try.prog 28 #[.string t] w fun e w' => e = .returned (.bool true) ∧ w = w' := by
  have HB := Lib.hid h
  have hsi : (t.size : Int) ≤ 1073741824 := by omega
  clear h
  go_enter Try.func28, Try.ntmps28
  go_wp2
  go_loopg [3] (t.size) (fun g v2 wr => ∃ j : Nat, v2 = .int .i64 j ∧ (j : Int) ≤ (t.size : Int) ∧ t.size - j ≤ g ∧ wr = w)
  case atStart => exact ⟨0, rfl, by omega, by omega, rfl⟩
  case round =>
    obtain ⟨j, rfl, hj, hg, rfl⟩ := hrel
    by_cases hlt : (j : Int) < (t.size : Int)
    · have hjn : j < t.size := by omega
      have hc := HB.out j hjn
      have hc2 : ((t[j].toNat : Nat) : Int) = 32 := by rw [hc]; rfl
      clear hc
      go_wp2
      go_roundg (t.size - (j + 1))
      case measure => omega
      case rel => exact ⟨j + 1, by go_num, by omega, Nat.le_refl _, rfl⟩
    · go_wp2
      go_ret
      exact ⟨rfl, rfl⟩
end Go.Proofs.Ytonhphjejlidiaa
