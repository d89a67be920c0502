/-
  DERIVED: THE SHELF's CONTRACTS AT THIS DUMP, IN PLAIN WORDS (tools/lay-plain.mjs out of 'YthihppocokkoiaaDoorShelf.lean', which tools/lay-shelf.mjs wrote): THE SAME DECLARATIONS UNDER THE SAME NAMES: 'import', 'namespace', 'open', 'def', 'theorem' AND NOTHING ELSE: no command of the shelf's: FOR A HAND-IN. Each laying: the table of numbers ('.._ren') and one theorem, a field a fact of the dump's own or the kernel's comparison; each contract: ONE APPLICATION.
-/
import Derived.Shelf.Small.Strs
import Derived.Shelf.Strings.Search1
import Derived.Shelf.Slices.Clone
import Derived.Shelf.Slices.Delete
import Derived.Shelf.Slices.Empties
import Derived.Shelf.SlSortCmp.Insertion1
import Derived.Test.YthihppocokkoiaaDoorProg
namespace Go.Proofs
open Go.Shelf
def Tryd.lays106_ren : Go.Shelf.Ren := ⟨fun | 106 => 84 | 213 => 96 | 265 => 106 | n => n, fun | 9 => 9 | 3 => 3 | n => n, fun | n => n⟩
theorem Tryd.lays106 : Go.Proofs.Lays.n106 Tryd.prog Tryd.lays106_ren := {
  mixed := by kernel_rfl
  f106 := Tryd.func84.trans (congrArg some (by kernel_rfl))
  f213 := Tryd.func96.trans (congrArg some (by kernel_rfl))
  f265 := Tryd.func106.trans (congrArg some (by kernel_rfl))
  t3 := Tryd.underlying3
  a3 := Tryd.isAgg3
  z3 := Tryd.sizeOf3
  v3 := Tryd.zeroValue3
  t9 := Tryd.underlying9
  a9 := Tryd.isAgg9
  z9 := Tryd.sizeOf9
  v9 := Tryd.zeroValue9 }
open Go.RowKit in
/-- strings.Compare: "Compare returns an integer comparing two strings lexicographically. The result will be 0 if a == b, -1 if a < b, and +1 if a > b.": IT RETURNS 'Lib.compareBytes a b'; the world is as it was. (LAID: no walk: one application.) -/
theorem Tryd.strings_Compare (a b : ByteArray) (w : World) :
    Calls Tryd.prog 84 #[.string a, .string b] w fun e w' => e = .returned (.int .i64 (Lib.compareBytes a.data.toList b.data.toList)) ∧ w' = w := Any.strings_Compare Tryd.lays106 a b w
def Tryd.lays137_ren : Go.Shelf.Ren := ⟨fun | 137 => 75 | 217 => 82 | 266 => 89 | n => n, fun | 9 => 9 | 5 => 5 | 3 => 3 | n => n, fun | n => n⟩
theorem Tryd.lays137 : Go.Proofs.Lays.n137 Tryd.prog Tryd.lays137_ren := {
  mixed := by kernel_rfl
  f137 := Tryd.func75.trans (congrArg some (by kernel_rfl))
  f217 := Tryd.func82.trans (congrArg some (by kernel_rfl))
  f266 := Tryd.func89.trans (congrArg some (by kernel_rfl))
  t3 := Tryd.underlying3
  a3 := Tryd.isAgg3
  z3 := Tryd.sizeOf3
  v3 := Tryd.zeroValue3
  t5 := Tryd.underlying5
  a5 := Tryd.isAgg5
  z5 := Tryd.sizeOf5
  v5 := Tryd.zeroValue5
  t9 := Tryd.underlying9
  a9 := Tryd.isAgg9
  z9 := Tryd.sizeOf9
  v9 := Tryd.zeroValue9 }
open Go.RowKit in
/-- strings.IndexByte: "IndexByte returns the index of the first instance of c in s, or -1 if c is not present in s.": IT RETURNS 'Lib.indexByte s c'; the world is as it was. (LAID: no walk: one application.) -/
theorem Tryd.strings_IndexByte (s : ByteArray) (c : Int) (w : World) :
    Calls Tryd.prog 75 #[.string s, .int .u8 c] w fun e w' => e = .returned (.int .i64 (Lib.indexByte s.data.toList c.toNat.toUInt8)) ∧ w' = w := Any.strings_IndexByte Tryd.lays137 s c w
def Tryd.laysNm216_ren : Go.Shelf.Ren := ⟨fun | 16 => 72 | n => n, fun | 24 => 22 | 9 => 9 | 4 => 4 | n => n, fun | n => n⟩
theorem Tryd.laysNm216 : Go.Proofs.Lays2.n16 Tryd.prog Tryd.laysNm216_ren := {
  mixed := by kernel_rfl
  f16 := Tryd.func72.trans (congrArg some (by kernel_rfl))
  t4 := Tryd.underlying4
  a4 := Tryd.isAgg4
  z4 := Tryd.sizeOf4
  v4 := Tryd.zeroValue4
  t9 := Tryd.underlying9
  a9 := Tryd.isAgg9
  z9 := Tryd.sizeOf9
  v9 := Tryd.zeroValue9
  t24 := Tryd.underlying22
  a24 := Tryd.isAgg22
  z24 := Tryd.sizeOf22
  v24 := Tryd.zeroValue22
  i9 := by kernel_rfl }
open Go.RowKit Go.Lib in
/-- slices.Clone at []string: "Clone returns a copy of the slice. The elements are copied using assignment, so this is a shallow clone. The result may have additional unused capacity. The result preserves the nilness of s.": OF A SLICE THAT IS NOT nil IT RETURNS A SLICE THAT IS NOT nil, OF THE SAME ELEMENTS, IN MEMORY OF THE CALL's OWN: in the how-to's words (6f): 'w'.ownsRow B e 1 v' n cells': v' begins at the head of a row among the blocks from B on (B: the heap's size at the call), not frozen, whose first cells are the elements · 'Below B w w'': below B all is as it was. The capacity is whatever the run-time gives. 'zs': what the cells behind the slice's address hold; 'zs.take n': its elements. (LAID: no walk: one application.) -/
theorem Tryd.slices_Clone_string (b off n c : Nat) (zs : List ByteArray) (w : World) (hz : n ≤ zs.length) (hbig : n * 16 ≤ 140737488355328) (hc : ∀ j, j < zs.length → w.cell? ⟨b, off + j, none⟩ = some (.string (zs.getD j ByteArray.empty))) :
    Calls Tryd.prog 72 #[.slice (some ⟨b, off, none⟩) n c] w fun e w' => ∃ v', e = .returned v' ∧ w'.ownsRow w.heap.size 9 1 v' n ((zs.take n).map (Value.string)) ∧ v' ≠ .slice none 0 0 ∧ Below w.heap.size w w' := Any.slices_Clone_string Tryd.laysNm216 b off n c zs w hz hbig hc
open Go.RowKit Go.Lib in
/-- The same at nil: nil comes back; the world is as it was. (LAID: no walk: one application.) -/
theorem Tryd.slices_Clone_string_nil (n c : Nat) (w : World) :
    Calls Tryd.prog 72 #[.slice none n c] w fun e w' => e = .returned (.slice none 0 0) ∧ w' = w := Any.slices_Clone_string_nil Tryd.laysNm216 n c w
open Go.RowKit Go.Lib in
/-- The same at a slice of length 0 that is not nil, WHATEVER ITS ADDRESS (no cell is asked for): a slice that is not nil and owns nothing comes back. (LAID: no walk: one application.) -/
theorem Tryd.slices_Clone_string_zero (a : Addr) (c : Nat) (w : World) :
    Calls Tryd.prog 72 #[.slice (some a) 0 c] w fun e w' => ∃ v', e = .returned v' ∧ w'.ownsRow w.heap.size 9 1 v' 0 [] ∧ v' ≠ .slice none 0 0 ∧ Below w.heap.size w w' := Any.slices_Clone_string_zero Tryd.laysNm216 a c w
def Tryd.laysNm224_ren : Go.Shelf.Ren := ⟨fun | 24 => 78 | n => n, fun | 24 => 22 | 9 => 9 | 3 => 3 | 4 => 4 | 0 => 0 | n => n, fun | n => n⟩
theorem Tryd.laysNm224 : Go.Proofs.Lays2.n24 Tryd.prog Tryd.laysNm224_ren := {
  mixed := by kernel_rfl
  f24 := Tryd.func78.trans (congrArg some (by kernel_rfl))
  t0 := Tryd.underlying0
  a0 := Tryd.isAgg0
  z0 := Tryd.sizeOf0
  v0 := Tryd.zeroValue0
  t3 := Tryd.underlying3
  a3 := Tryd.isAgg3
  z3 := Tryd.sizeOf3
  v3 := Tryd.zeroValue3
  t4 := Tryd.underlying4
  a4 := Tryd.isAgg4
  z4 := Tryd.sizeOf4
  v4 := Tryd.zeroValue4
  t9 := Tryd.underlying9
  a9 := Tryd.isAgg9
  z9 := Tryd.sizeOf9
  v9 := Tryd.zeroValue9
  t24 := Tryd.underlying22
  a24 := Tryd.isAgg22
  z24 := Tryd.sizeOf22
  v24 := Tryd.zeroValue22
  i9 := by kernel_rfl }
open Go.RowKit Go.Lib Go.Sort in
/-- slices.Delete at []string, over an array. (LAID: no walk: one application.) -/
theorem Tryd.slices_Delete_string_arr (blk off cap i j : Nat) (d : Array (List UInt8)) (w : World) (hH : Holds encStr w blk off d) (hcap : d.size ≤ cap) (hm : cap ≤ 9223372036854775807) (hij : i ≤ j) (hj : j ≤ d.size) :
    Calls Tryd.prog 78 #[.slice (some ⟨blk, off, none⟩) d.size cap, .int .i64 i, .int .i64 j] w fun e w' => e = .returned (.slice (some ⟨blk, off, none⟩) (d.size - (j - i)) cap) ∧ ∃ q, w' = putRow encStr (Sort.ahead w q) blk off (d.toList.take i ++ d.toList.drop j ++ List.replicate (j - i) []).toArray := Any.slices_Delete_string_arr Tryd.laysNm224 blk off cap i j d w hH hcap hm hij hj
open Go.RowKit Go.Lib Go.Sort in
/-- slices.Delete at []string: "Delete modifies s in place by removing the elements s[i:j], and returns the modified slice. Delete panics if j > len(s) or s[i:j] is not a valid slice of s. Delete is O(len(s)-i), so if many items must be deleted, it is better to make a single call deleting them all together than to delete one at a time. Delete zeroes the elements s[len(s)-(j-i):len(s)]. If the result is empty, it has the same nilness as s.": FOR i ≤ j ≤ len(s) IT RETURNS THE SLICE CUT TO len(s) - (j - i) ELEMENTS; ITS CELLS HOLD what stood ahead of i, what stood from j on, then j - i zero values; all else is as it was, but for the count of draws. IN THE WORDS OF slices.Sort's CONTRACT ('Holds', 'putRow'). It asks 'zs.length ≤ cap ≤ 2^63 - 1' (every slice's). (Outside i ≤ j ≤ len(s) it panics: no contract here.) (LAID: no walk: one application.) -/
theorem Tryd.slices_Delete_string (blk off cap i j : Nat) (zs : List (List UInt8)) (w : World) (hH : Holds encStr w blk off zs.toArray) (hcap : zs.length ≤ cap) (hm : cap ≤ 9223372036854775807) (hij : i ≤ j) (hj : j ≤ zs.length) :
    Calls Tryd.prog 78 #[.slice (some ⟨blk, off, none⟩) zs.length cap, .int .i64 i, .int .i64 j] w fun e w' => e = .returned (.slice (some ⟨blk, off, none⟩) (zs.length - (j - i)) cap) ∧ ∃ q, w' = putRow encStr (Sort.ahead w q) blk off (zs.take i ++ zs.drop j ++ List.replicate (j - i) []).toArray := Any.slices_Delete_string Tryd.laysNm224 blk off cap i j zs w hH hcap hm hij hj
open Go.RowKit Go.Lib in
/-- slices.Delete at []string of no element ('Delete(s, 0, 0)'): s comes back; the world is as it was. (LAID: no walk: one application.) -/
theorem Tryd.slices_Delete_string_empty (a : Option Addr) (c : Nat) (w : World) :
    Calls Tryd.prog 78 #[.slice a 0 c, .int .i64 0, .int .i64 0] w fun e w' => e = .returned (.slice a 0 c) ∧ w' = w := Any.slices_Delete_string_empty Tryd.laysNm224 a c w
def Tryd.laysF20_ren : Go.Shelf.Ren := ⟨fun | 20 => 87 | n => n, fun | 24 => 9 | 22 => 22 | 3 => 3 | 25 => 71 | 4 => 4 | 0 => 0 | n => n, fun | n => n⟩
theorem Tryd.laysF20 : Go.Proofs.SlLaysF.n20 Tryd.prog Tryd.laysF20_ren := {
  mixed := by kernel_rfl
  f20 := ⟨Tryd.f87.name, by decide, Tryd.func87.trans (congrArg some (by kernel_rfl))⟩
  t0 := Tryd.underlying0
  a0 := Tryd.isAgg0
  z0 := Tryd.sizeOf0
  v0 := Tryd.zeroValue0
  t3 := Tryd.underlying3
  a3 := Tryd.isAgg3
  z3 := Tryd.sizeOf3
  v3 := Tryd.zeroValue3
  t4 := Tryd.underlying4
  a4 := Tryd.isAgg4
  z4 := Tryd.sizeOf4
  v4 := Tryd.zeroValue4
  t22 := Tryd.underlying22
  a22 := Tryd.isAgg22
  z22 := Tryd.sizeOf22
  v22 := Tryd.zeroValue22
  a24 := Tryd.isAgg9
  z24 := Tryd.sizeOf9
  t25 := Tryd.underlying71
  a25 := Tryd.isAgg71
  z25 := Tryd.sizeOf71
  v25 := Tryd.zeroValue71 }
open Go.RowKit Go.Lib Go.Sort in
/-- slices.insertionSortCmpFunc at elements of one cell: from a world of the sort's to a world of the sort's. -/
theorem Tryd.insertionSortCmpFunc_s {α : Type} [Inhabited α] (enc : α → Value) (cf : α → α → Int) (g : Nat) (cb : Array Value) (blk off cap a b : Nat) (d0 d : Array α) (w0 w : World)
    (eg : ∀ args w, (callFunc g args).run Tryd.prog w = .ok (.enter g args) w) (hcmp : CmpLays1 Tryd.prog g cb enc cf blk off d0.size w0) (R : Row1 enc w0 blk off d0) (hs : d0.size = d.size) (S : SW enc w0 blk off d w) (hab : a ≤ b) (hb : b ≤ d.size) (hsz : d.size < 4611686018427387904) :
    Calls Tryd.prog 87 #[.slice (some ⟨blk, off, none⟩) d.size cap, .int .i64 a, .int .i64 b, .func (.func g) #[] cb] w fun e w' => e = .returned (.tuple #[]) ∧ SW enc w0 blk off (Sort.insertionSort (ltOf cf) d a b) w' := Any.insertionSortCmpFunc_s Tryd.laysF20 enc cf g cb blk off cap a b d0 d w0 w eg hcmp R hs S hab hb hsz
end Go.Proofs
