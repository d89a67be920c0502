/-
  strings.ToUpper at this seat, in the class of worlds of the sort; the comparison of the list environment, case-insensitive. Conditions: the three tables that unicode reads lie as their initialisers lay them; texts of at most 2 to the 30 bytes.
-/
import Derived.Test.YthihppocokkoiaaDoorShelfU
import Derived.Test.YthihppocokkoiaaDoorMono
import Derived.Test.YthihppocokkoiaaDoorStable
import Derived.Test.YthihppocokkoiaaDoorEnvP
import Derived.Shelf.Strings.CaseAny
import Derived.Sort.EncStr
import Derived.Deep.RegionWith
namespace Go.Proofs.YthihppocokkoiaaDoor
set_option linter.unusedVariables false
open Go.Shelf Go.RowKit Go.Lib Go.Sort

theorem extraU : Builder.Extra Tryd.prog Tryd.lays158_ren := {
  sizeBuilder := by kernel_rfl
  liesBuilder := by kernel_rfl
  t5 := Tryd.lays158.t5
  a5 := Tryd.lays158.a5
  z5 := Tryd.lays158.z5
  v5 := Tryd.lays158.v5
  infoByte := by kernel_rfl
  cellsByte := by kernel_rfl
  sizeByte := by kernel_rfl
  neB5 := by decide }

/-- the three tables as their initialisers lay them -/
def TabsU (w : World) : Prop := Lib.CaseVar 1 Lib.caseA w ∧ Lib.Utf8Tabs 2 3 w
theorem TabsU.below {w w' : World} (h : TabsU w) (hb : Below w.heap.size w w') : TabsU w' := ⟨Lib.CaseVar_below h.1 hb, Utf8Tabs_below h.2 hb⟩
/-- a text in upper case -/
def upB (s : ByteArray) : ByteArray := ⟨(Lib.toUpperD s.data.toList).toArray⟩
theorem upB_list (s : ByteArray) : (upB s).data.toList = Lib.toUpperD s.data.toList := rfl
theorem grow_of_below {w w' : World} (h : Below w.heap.size w w') (hd : w.drawn ≤ w'.drawn) : ∃ q os', w' = grow (w.drewN q) os' := by
  obtain ⟨p, hp⟩ := regrown_of_below h
  have e : w'.drawn = p.d := by rw [hp]; rfl
  refine ⟨p.d - w.drawn, p.os, ?_⟩
  rw [hp]
  have e2 : redrawn w p.d = w.drewN (p.d - w.drawn) := by
    unfold redrawn World.drewN
    rw [show w.drawn + (p.d - w.drawn) = p.d by omega]
  rw [e2]
theorem upper83 (s : ByteArray) (w : World) (hs : s.size ≤ 1073741824) (hT : TabsU w) :
    Calls Tryd.prog 83 #[.string s] w fun e w' => e = .returned (.string (upB s)) ∧ Below w.heap.size w w' :=
  Any.strings_ToUpper_any Tryd.lays158 extraU s w (by omega) hT.1 hT.2
theorem grown_calls {f : FuncId} {args : Array Value} {w : World} {v : Value} (h : Calls Tryd.prog f args w fun e w' => e = .returned v ∧ Below w.heap.size w w') : Calls Tryd.prog f args w fun e w' => e = .returned v ∧ ∃ q os', w' = grow (w.drewN q) os' :=
  (Calls_drawn h (fun e w' h => by rw [h.1]; intro h; cases h)).mono fun e w' ⟨⟨he, hb⟩, hd⟩ => ⟨he, grow_of_below hb hd⟩

theorem compare_trueB (sv : Value) (a b : ByteArray) (w : World) (ha : a.size ≤ 1073741824) (hb : b.size ≤ 1073741824) (hT : TabsU w) :
    Calls Tryd.prog 76 #[.agg #[.bool true, sv], .string a, .string b] w fun e w' => e = .returned (.int .i64 (compareBytes (Lib.toUpperD a.data.toList) (Lib.toUpperD b.data.toList))) ∧ Below w.heap.size w w' := by
  have UA := Lib.hid fun W (hW : TabsU W) => upper83 a W ha hW
  have UB := Lib.hid fun W (hW : TabsU W) => upper83 b W hb hW
  have T0 : Hid (TabsU (w.alloc (.cells #[.bool true, sv] 97))) := Lib.hid (hT.below ((Below.refl _ _).alloc (Nat.le_refl _) _))
  clear hT ha hb
  go_enter Tryd.func76, Tryd.ntmps76
  go_wp2_with (fail)
  refine (UA.out _ T0.out).mono ?_
  rintro e w1 ⟨rfl, h1⟩
  have T1 := Lib.hid (T0.out.below h1)
  have B1 : Hid (Below w.heap.size w w1) := Lib.hid (((Below.refl _ _).alloc (Nat.le_refl _) _).trans (h1.mono (by simp)))
  clear h1 T0 UA
  go_wp2_with (fail)
  refine (UB.out _ T1.out).mono ?_
  rintro e w2 ⟨rfl, h2⟩
  have B2 : Hid (Below w.heap.size w w2) := Lib.hid (B1.out.trans (h2.mono B1.out.size))
  clear h2 T1 UB
  go_wp2_with (go_at_call 84; refine (Tryd.strings_Compare _ _ _).mono ?_; rintro e w' ⟨rfl, rfl⟩)
  go_ret
  exact ⟨rfl, B2.out⟩
theorem compare_grownT (a b : ByteArray) (w : World) (c : Int) (ha : a.size ≤ 1073741824) (hb : b.size ≤ 1073741824) (hT : TabsU w) (hc : Hid (compareBytes (Lib.toUpperD a.data.toList) (Lib.toUpperD b.data.toList) = c)) :
    Calls Tryd.prog 76 #[.agg #[.bool true, .slice none 0 0], .string a, .string b] w fun e w' => e = .returned (.int .i64 c) ∧ ∃ q os', w' = grow (w.drewN q) os' :=
  grown_calls ((compare_trueB _ a b w ha hb hT).mono fun e w' h => ⟨by rw [h.1, hc.out], h.2⟩)
end Go.Proofs.YthihppocokkoiaaDoor
