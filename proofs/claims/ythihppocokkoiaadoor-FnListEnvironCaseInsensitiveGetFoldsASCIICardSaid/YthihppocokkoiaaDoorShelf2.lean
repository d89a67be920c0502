/-
  DERIVED: THE SHELF's CONTRACTS AT THIS DUMP, IN PLAIN WORDS (tools/lay-plain.mjs out of 'YthihppocokkoiaaDoorShelf2.lean', which tools/lay-shelf.mjs wrote): THE SAME DECLARATIONS UNDER THE SAME NAMES: 'import', 'namespace', 'open', 'def', 'theorem' AND NOTHING ELSE: no command of the shelf's: FOR A HAND-IN. Each laying: the table of numbers ('.._ren') and one theorem, a field a fact of the dump's own or the kernel's comparison; each contract: ONE APPLICATION.
-/
import Derived.Shelf.SlCmpFuncs.BinarySearchFunc
import Derived.Shelf.SlCmpFuncs.None
import Derived.Test.YthihppocokkoiaaDoorProg
namespace Go.Proofs
open Go.Shelf
def Tryd.laysG14_ren : Go.Shelf.Ren := ⟨fun | 14 => 142 | n => n, fun | 22 => 22 | 24 => 9 | 29 => 9 | 32 => 71 | 3 => 3 | 4 => 4 | 35 => 81 | 0 => 0 | n => n, fun | n => n⟩
theorem Tryd.laysG14 : Go.Proofs.SlLaysG2.n14 Tryd.prog Tryd.laysG14_ren := {
  mixed := by kernel_rfl
  f14 := ⟨Tryd.f142.name, by decide, Tryd.func142.trans (congrArg some (by kernel_rfl))⟩
  t0 := Tryd.underlying0
  a0 := Tryd.isAgg0
  z0 := Tryd.sizeOf0
  v0 := Tryd.zeroValue0
  t3 := Tryd.underlying3
  a3 := Tryd.isAgg3
  z3 := Tryd.sizeOf3
  v3 := Tryd.zeroValue3
  t4 := Tryd.underlying4
  a4 := Tryd.isAgg4
  z4 := Tryd.sizeOf4
  v4 := Tryd.zeroValue4
  t22 := Tryd.underlying22
  a22 := Tryd.isAgg22
  z22 := Tryd.sizeOf22
  v22 := Tryd.zeroValue22
  a24 := Tryd.isAgg9
  z24 := Tryd.sizeOf9
  a29 := Tryd.isAgg9
  z29 := Tryd.sizeOf9
  t32 := Tryd.underlying71
  a32 := Tryd.isAgg71
  z32 := Tryd.sizeOf71
  v32 := Tryd.zeroValue71
  t35 := Tryd.underlying81
  a35 := Tryd.isAgg81
  z35 := Tryd.sizeOf81
  v35 := Tryd.zeroValue81 }
open Go.RowKit Go.Lib Go.Sort in
theorem Tryd.slices_BinarySearchFunc {α : Type} [Inhabited α] (enc : α → Value) (h1 : OneCell enc) (tv : Value) (cft : α → Int) (g : Nat) (cb : Array Value) (blk off cap : Nat) (d : Array α) (w0 : World)
    (eg : ∀ args w, (callFunc g args).run Tryd.prog w = .ok (.enter g args) w) (hcmp : CmpLaysT Tryd.prog g cb enc tv cft blk off d.size w0) (hH : Holds enc w0 blk off d) (hblk : blk < w0.heap.size) (hsz : d.size < 4611686018427387904)
    (hmono : ∀ a b, a ≤ b → b < d.size → cft d[b]! < 0 → cft d[a]! < 0) :
    Calls Tryd.prog 142 #[.slice (some ⟨blk, off, none⟩) d.size cap, tv, .func (.func g) #[] cb] w0 fun e w' =>
      e = .returned (.tuple #[.int .i64 (d.toList.countP (fun x => decide (cft x < 0)) : Nat), .bool (decide (d.toList.countP (fun x => decide (cft x < 0)) < d.size) && decide (cft d[d.toList.countP (fun x => decide (cft x < 0))]! = 0))]) ∧ SW enc w0 blk off d w' := Any.slices_BinarySearchFunc Tryd.laysG14 enc h1 tv cft g cb blk off cap d w0 eg hcmp hH hblk hsz hmono
open Go.RowKit Go.Lib Go.Sort in
theorem Tryd.slices_BinarySearchFunc_none (p : Option Addr) (cap : Nat) (tv fv : Value) (w : World) :
    Calls Tryd.prog 142 #[.slice p 0 cap, tv, fv] w fun e w' => e = .returned (.tuple #[.int .i64 0, .bool false]) ∧ w' = w := Any.slices_BinarySearchFunc_none Tryd.laysG14 p cap tv fv w
end Go.Proofs
