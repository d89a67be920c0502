/-
  DERIVED: THE SHELF's CONTRACTS AT THIS DUMP, IN PLAIN WORDS (tools/lay-plain.mjs out of 'YtmbjhfkpmgkkbaaGreatDoorShelf.lean', which tools/lay-shelf.mjs wrote): THE SAME DECLARATIONS UNDER THE SAME NAMES: 'import', 'namespace', 'open', 'def', 'theorem' AND NOTHING ELSE: no command of the shelf's: FOR A HAND-IN. Each laying: the table of numbers ('.._ren') and one theorem, a field a fact of the dump's own or the kernel's comparison; each contract: ONE APPLICATION.
-/
import Derived.Shelf.Small.Strs
import Derived.Shelf.Strings.Search1
import Derived.Ground.NamesProg
import Derived.Ground.Names2Prog
import Derived.Shelf.Slices.Clone
import Derived.Shelf.Slices.Delete
import Derived.Shelf.Slices.Empties
import Derived.Shelf.SlSortCmp.Insertion1
import Derived.Ground.SlsfProg
import Derived.Test.YtmbjhfkpmgkkbaaGreatDoorProg
namespace Go.Proofs
open Go.Shelf
def Tryz.lays106_ren : Go.Shelf.Ren := ⟨fun | 106 => 28 | 213 => 42 | 265 => 62 | n => n, fun | 9 => 9 | 3 => 3 | n => n, fun | n => n⟩
theorem Tryz.lays106 : Go.Proofs.Lays.n106 Tryz.prog Tryz.lays106_ren := {
  mixed := by kernel_rfl
  f106 := Tryz.func28.trans (congrArg some (by kernel_rfl))
  f213 := Tryz.func42.trans (congrArg some (by kernel_rfl))
  f265 := Tryz.func62.trans (congrArg some (by kernel_rfl))
  t3 := Tryz.underlying3
  a3 := Tryz.isAgg3
  z3 := Tryz.sizeOf3
  v3 := Tryz.zeroValue3
  t9 := Tryz.underlying9
  a9 := Tryz.isAgg9
  z9 := Tryz.sizeOf9
  v9 := Tryz.zeroValue9 }
open Go.RowKit in
/-- strings.Compare: "Compare returns an integer comparing two strings lexicographically. The result will be 0 if a == b, -1 if a < b, and +1 if a > b.": IT RETURNS 'Lib.compareBytes a b'; the world is as it was. (LAID: no walk: one application.) -/
theorem Tryz.strings_Compare (a b : ByteArray) (w : World) :
    Calls Tryz.prog 28 #[.string a, .string b] w fun e w' => e = .returned (.int .i64 (Lib.compareBytes a.data.toList b.data.toList)) ∧ w' = w := Any.strings_Compare Tryz.lays106 a b w
def Tryz.lays137_ren : Go.Shelf.Ren := ⟨fun | 137 => 19 | 217 => 26 | 266 => 35 | n => n, fun | 9 => 9 | 5 => 5 | 3 => 3 | n => n, fun | n => n⟩
theorem Tryz.lays137 : Go.Proofs.Lays.n137 Tryz.prog Tryz.lays137_ren := {
  mixed := by kernel_rfl
  f137 := Tryz.func19.trans (congrArg some (by kernel_rfl))
  f217 := Tryz.func26.trans (congrArg some (by kernel_rfl))
  f266 := Tryz.func35.trans (congrArg some (by kernel_rfl))
  t3 := Tryz.underlying3
  a3 := Tryz.isAgg3
  z3 := Tryz.sizeOf3
  v3 := Tryz.zeroValue3
  t5 := Tryz.underlying5
  a5 := Tryz.isAgg5
  z5 := Tryz.sizeOf5
  v5 := Tryz.zeroValue5
  t9 := Tryz.underlying9
  a9 := Tryz.isAgg9
  z9 := Tryz.sizeOf9
  v9 := Tryz.zeroValue9 }
open Go.RowKit in
/-- strings.IndexByte: "IndexByte returns the index of the first instance of c in s, or -1 if c is not present in s.": IT RETURNS 'Lib.indexByte s c'; the world is as it was. (LAID: no walk: one application.) -/
theorem Tryz.strings_IndexByte (s : ByteArray) (c : Int) (w : World) :
    Calls Tryz.prog 19 #[.string s, .int .u8 c] w fun e w' => e = .returned (.int .i64 (Lib.indexByte s.data.toList c.toNat.toUInt8)) ∧ w' = w := Any.strings_IndexByte Tryz.lays137 s c w
def Tryz.laysNm216_ren : Go.Shelf.Ren := ⟨fun | 16 => 16 | n => n, fun | 24 => 22 | 9 => 9 | 4 => 4 | n => n, fun | n => n⟩
theorem Tryz.laysNm216 : Go.Proofs.Lays2.n16 Tryz.prog Tryz.laysNm216_ren := {
  mixed := by kernel_rfl
  f16 := Tryz.func16.trans (congrArg some (by kernel_rfl))
  t4 := Tryz.underlying4
  a4 := Tryz.isAgg4
  z4 := Tryz.sizeOf4
  v4 := Tryz.zeroValue4
  t9 := Tryz.underlying9
  a9 := Tryz.isAgg9
  z9 := Tryz.sizeOf9
  v9 := Tryz.zeroValue9
  t24 := Tryz.underlying22
  a24 := Tryz.isAgg22
  z24 := Tryz.sizeOf22
  v24 := Tryz.zeroValue22
  i9 := by kernel_rfl }
open Go.RowKit Go.Lib in
/-- slices.Clone at []string: "Clone returns a copy of the slice. The elements are copied using assignment, so this is a shallow clone. The result may have additional unused capacity. The result preserves the nilness of s.": OF A SLICE THAT IS NOT nil IT RETURNS A SLICE THAT IS NOT nil, OF THE SAME ELEMENTS, IN MEMORY OF THE CALL's OWN: in the how-to's words (6f): 'w'.ownsRow B e 1 v' n cells': v' begins at the head of a row among the blocks from B on (B: the heap's size at the call), not frozen, whose first cells are the elements · 'Below B w w'': below B all is as it was. The capacity is whatever the run-time gives. 'zs': what the cells behind the slice's address hold; 'zs.take n': its elements. (LAID: no walk: one application.) -/
theorem Tryz.slices_Clone_string (b off n c : Nat) (zs : List ByteArray) (w : World) (hz : n ≤ zs.length) (hbig : n * 16 ≤ 140737488355328) (hc : ∀ j, j < zs.length → w.cell? ⟨b, off + j, none⟩ = some (.string (zs.getD j ByteArray.empty))) :
    Calls Tryz.prog 16 #[.slice (some ⟨b, off, none⟩) n c] w fun e w' => ∃ v', e = .returned v' ∧ w'.ownsRow w.heap.size 9 1 v' n ((zs.take n).map (Value.string)) ∧ v' ≠ .slice none 0 0 ∧ Below w.heap.size w w' := Any.slices_Clone_string Tryz.laysNm216 b off n c zs w hz hbig hc
open Go.RowKit Go.Lib in
/-- The same at nil: nil comes back; the world is as it was. (LAID: no walk: one application.) -/
theorem Tryz.slices_Clone_string_nil (n c : Nat) (w : World) :
    Calls Tryz.prog 16 #[.slice none n c] w fun e w' => e = .returned (.slice none 0 0) ∧ w' = w := Any.slices_Clone_string_nil Tryz.laysNm216 n c w
open Go.RowKit Go.Lib in
/-- The same at a slice of length 0 that is not nil, WHATEVER ITS ADDRESS (no cell is asked for): a slice that is not nil and owns nothing comes back. (LAID: no walk: one application.) -/
theorem Tryz.slices_Clone_string_zero (a : Addr) (c : Nat) (w : World) :
    Calls Tryz.prog 16 #[.slice (some a) 0 c] w fun e w' => ∃ v', e = .returned v' ∧ w'.ownsRow w.heap.size 9 1 v' 0 [] ∧ v' ≠ .slice none 0 0 ∧ Below w.heap.size w w' := Any.slices_Clone_string_zero Tryz.laysNm216 a c w
def Tryz.laysNm224_ren : Go.Shelf.Ren := ⟨fun | 24 => 22 | n => n, fun | 24 => 22 | 9 => 9 | 3 => 3 | 4 => 4 | 0 => 0 | n => n, fun | n => n⟩
theorem Tryz.laysNm224 : Go.Proofs.Lays2.n24 Tryz.prog Tryz.laysNm224_ren := {
  mixed := by kernel_rfl
  f24 := Tryz.func22.trans (congrArg some (by kernel_rfl))
  t0 := Tryz.underlying0
  a0 := Tryz.isAgg0
  z0 := Tryz.sizeOf0
  v0 := Tryz.zeroValue0
  t3 := Tryz.underlying3
  a3 := Tryz.isAgg3
  z3 := Tryz.sizeOf3
  v3 := Tryz.zeroValue3
  t4 := Tryz.underlying4
  a4 := Tryz.isAgg4
  z4 := Tryz.sizeOf4
  v4 := Tryz.zeroValue4
  t9 := Tryz.underlying9
  a9 := Tryz.isAgg9
  z9 := Tryz.sizeOf9
  v9 := Tryz.zeroValue9
  t24 := Tryz.underlying22
  a24 := Tryz.isAgg22
  z24 := Tryz.sizeOf22
  v24 := Tryz.zeroValue22
  i9 := by kernel_rfl }
open Go.RowKit Go.Lib Go.Sort in
/-- slices.Delete at []string, over an array. (LAID: no walk: one application.) -/
theorem Tryz.slices_Delete_string_arr (blk off cap i j : Nat) (d : Array (List UInt8)) (w : World) (hH : Holds encStr w blk off d) (hcap : d.size ≤ cap) (hm : cap ≤ 9223372036854775807) (hij : i ≤ j) (hj : j ≤ d.size) :
    Calls Tryz.prog 22 #[.slice (some ⟨blk, off, none⟩) d.size cap, .int .i64 i, .int .i64 j] w fun e w' => e = .returned (.slice (some ⟨blk, off, none⟩) (d.size - (j - i)) cap) ∧ ∃ q, w' = putRow encStr (Sort.ahead w q) blk off (d.toList.take i ++ d.toList.drop j ++ List.replicate (j - i) []).toArray := Any.slices_Delete_string_arr Tryz.laysNm224 blk off cap i j d w hH hcap hm hij hj
open Go.RowKit Go.Lib Go.Sort in
/-- slices.Delete at []string: "Delete modifies s in place by removing the elements s[i:j], and returns the modified slice. Delete panics if j > len(s) or s[i:j] is not a valid slice of s. Delete is O(len(s)-i), so if many items must be deleted, it is better to make a single call deleting them all together than to delete one at a time. Delete zeroes the elements s[len(s)-(j-i):len(s)]. If the result is empty, it has the same nilness as s.": FOR i ≤ j ≤ len(s) IT RETURNS THE SLICE CUT TO len(s) - (j - i) ELEMENTS; ITS CELLS HOLD what stood ahead of i, what stood from j on, then j - i zero values; all else is as it was, but for the count of draws. IN THE WORDS OF slices.Sort's CONTRACT ('Holds', 'putRow'). It asks 'zs.length ≤ cap ≤ 2^63 - 1' (every slice's). (Outside i ≤ j ≤ len(s) it panics: no contract here.) (LAID: no walk: one application.) -/
theorem Tryz.slices_Delete_string (blk off cap i j : Nat) (zs : List (List UInt8)) (w : World) (hH : Holds encStr w blk off zs.toArray) (hcap : zs.length ≤ cap) (hm : cap ≤ 9223372036854775807) (hij : i ≤ j) (hj : j ≤ zs.length) :
    Calls Tryz.prog 22 #[.slice (some ⟨blk, off, none⟩) zs.length cap, .int .i64 i, .int .i64 j] w fun e w' => e = .returned (.slice (some ⟨blk, off, none⟩) (zs.length - (j - i)) cap) ∧ ∃ q, w' = putRow encStr (Sort.ahead w q) blk off (zs.take i ++ zs.drop j ++ List.replicate (j - i) []).toArray := Any.slices_Delete_string Tryz.laysNm224 blk off cap i j zs w hH hcap hm hij hj
open Go.RowKit Go.Lib in
/-- slices.Delete at []string of no element ('Delete(s, 0, 0)'): s comes back; the world is as it was. (LAID: no walk: one application.) -/
theorem Tryz.slices_Delete_string_empty (a : Option Addr) (c : Nat) (w : World) :
    Calls Tryz.prog 22 #[.slice a 0 c, .int .i64 0, .int .i64 0] w fun e w' => e = .returned (.slice a 0 c) ∧ w' = w := Any.slices_Delete_string_empty Tryz.laysNm224 a c w
def Tryz.laysF20_ren : Go.Shelf.Ren := ⟨fun | 20 => 33 | n => n, fun | 24 => 9 | 22 => 22 | 3 => 3 | 25 => 59 | 4 => 4 | 0 => 0 | n => n, fun | n => n⟩
theorem Tryz.laysF20 : Go.Proofs.SlLaysF.n20 Tryz.prog Tryz.laysF20_ren := {
  mixed := by kernel_rfl
  f20 := ⟨Tryz.f33.name, by decide, Tryz.func33.trans (congrArg some (by kernel_rfl))⟩
  t0 := Tryz.underlying0
  a0 := Tryz.isAgg0
  z0 := Tryz.sizeOf0
  v0 := Tryz.zeroValue0
  t3 := Tryz.underlying3
  a3 := Tryz.isAgg3
  z3 := Tryz.sizeOf3
  v3 := Tryz.zeroValue3
  t4 := Tryz.underlying4
  a4 := Tryz.isAgg4
  z4 := Tryz.sizeOf4
  v4 := Tryz.zeroValue4
  t22 := Tryz.underlying22
  a22 := Tryz.isAgg22
  z22 := Tryz.sizeOf22
  v22 := Tryz.zeroValue22
  a24 := Tryz.isAgg9
  z24 := Tryz.sizeOf9
  t25 := Tryz.underlying59
  a25 := Tryz.isAgg59
  z25 := Tryz.sizeOf59
  v25 := Tryz.zeroValue59 }
open Go.RowKit Go.Lib Go.Sort in
/-- slices.insertionSortCmpFunc at elements of one cell: from a world of the sort's to a world of the sort's. -/
theorem Tryz.insertionSortCmpFunc_s {α : Type} [Inhabited α] (enc : α → Value) (cf : α → α → Int) (g : Nat) (cb : Array Value) (blk off cap a b : Nat) (d0 d : Array α) (w0 w : World)
    (eg : ∀ args w, (callFunc g args).run Tryz.prog w = .ok (.enter g args) w) (hcmp : CmpLays1 Tryz.prog g cb enc cf blk off d0.size w0) (R : Row1 enc w0 blk off d0) (hs : d0.size = d.size) (S : SW enc w0 blk off d w) (hab : a ≤ b) (hb : b ≤ d.size) (hsz : d.size < 4611686018427387904) :
    Calls Tryz.prog 33 #[.slice (some ⟨blk, off, none⟩) d.size cap, .int .i64 a, .int .i64 b, .func (.func g) #[] cb] w fun e w' => e = .returned (.tuple #[]) ∧ SW enc w0 blk off (Sort.insertionSort (ltOf cf) d a b) w' := Any.insertionSortCmpFunc_s Tryz.laysF20 enc cf g cb blk off cap a b d0 d w0 w eg hcmp R hs S hab hb hsz
end Go.Proofs
