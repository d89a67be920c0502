/-
  DERIVED: THE SHELF's CONTRACTS AT THIS DUMP, IN PLAIN WORDS (tools/lay-plain.mjs out of 'YtonhphjejlidiaaShelf.lean', which tools/lay-shelf.mjs wrote): THE SAME DECLARATIONS UNDER THE SAME NAMES: 'import', 'namespace', 'open', 'def', 'theorem' AND NOTHING ELSE: no command of the shelf's: FOR A HAND-IN. Each laying: the table of numbers ('.._ren') and one theorem, a field a fact of the dump's own or the kernel's comparison; each contract: ONE APPLICATION.
-/
import Derived.Shelf.Bytes.Len
import Derived.Shelf.Bytes.String
import Derived.Shelf.Bytes.TryGrow
import Derived.Shelf.Bytes.GrowSlice
import Derived.Ground.NamesProg
import Derived.Test.YtonhphjejlidiaaProg
namespace Go.Proofs
open Go.Shelf
def Try.laysM181_ren : Go.Shelf.Ren := ⟨fun | 181 => 97 | n => n, fun | 130 => 31 | 3 => 3 | 0 => 0 | 93 => 67 | 37 => 54 | 91 => 65 | 5 => 5 | n => n, fun | n => n⟩
theorem Try.laysM181 : Go.Proofs.LaysM.n181 Try.prog Try.laysM181_ren := {
  mixed := by kernel_rfl
  f181 := Try.func97.trans (congrArg some (by kernel_rfl))
  t0 := Try.underlying0
  a0 := Try.isAgg0
  z0 := Try.sizeOf0
  v0 := Try.zeroValue0
  t3 := Try.underlying3
  a3 := Try.isAgg3
  z3 := Try.sizeOf3
  v3 := Try.zeroValue3
  t37 := Try.underlying54
  a37 := Try.isAgg54
  z37 := Try.sizeOf54
  v37 := Try.zeroValue54
  t93 := Try.underlying67
  a93 := Try.isAgg67
  z93 := Try.sizeOf67
  v93 := Try.zeroValue67
  t130 := Try.underlying31
  a130 := Try.isAgg31
  z130 := Try.sizeOf31
  v130 := Try.zeroValue31
  t5 := Try.underlying5
  a5 := Try.isAgg5
  z5 := Try.sizeOf5
  v5 := Try.zeroValue5
  t91 := Try.underlying65
  a91 := Try.isAgg65
  z91 := Try.sizeOf65
  v91 := Try.zeroValue65
  i0 := by kernel_rfl
  i3 := by kernel_rfl
  i5 := by kernel_rfl
  i37 := by kernel_rfl
  i91 := by kernel_rfl
  i93 := by kernel_rfl
  i130 := by kernel_rfl }
open Go.RowKit in
theorem Try.Buffer_Len (B b : Nat) (bs : List Value) (w : World) (h : Lib.IsBuffer 67 5 B b bs w) :
    Calls Try.prog 97 #[.pointer (some ⟨b, 0, none⟩)] w fun e w' => e = .returned (.int .i64 bs.length) ∧ ∃ n, w' = w.drewN n := Any.Buffer_Len Try.laysM181 B b bs w h
def Try.laysM182_ren : Go.Shelf.Ren := ⟨fun | 182 => 53 | n => n, fun | 130 => 31 | 9 => 9 | 4 => 4 | 0 => 0 | 93 => 67 | 37 => 54 | 3 => 3 | 91 => 65 | 5 => 5 | n => n, fun | n => n⟩
theorem Try.laysM182 : Go.Proofs.LaysM.n182 Try.prog Try.laysM182_ren := {
  mixed := by kernel_rfl
  f182 := Try.func53.trans (congrArg some (by kernel_rfl))
  t0 := Try.underlying0
  a0 := Try.isAgg0
  z0 := Try.sizeOf0
  v0 := Try.zeroValue0
  t3 := Try.underlying3
  a3 := Try.isAgg3
  z3 := Try.sizeOf3
  v3 := Try.zeroValue3
  t4 := Try.underlying4
  a4 := Try.isAgg4
  z4 := Try.sizeOf4
  v4 := Try.zeroValue4
  t9 := Try.underlying9
  a9 := Try.isAgg9
  z9 := Try.sizeOf9
  v9 := Try.zeroValue9
  t37 := Try.underlying54
  a37 := Try.isAgg54
  z37 := Try.sizeOf54
  v37 := Try.zeroValue54
  t93 := Try.underlying67
  a93 := Try.isAgg67
  z93 := Try.sizeOf67
  v93 := Try.zeroValue67
  t130 := Try.underlying31
  a130 := Try.isAgg31
  z130 := Try.sizeOf31
  v130 := Try.zeroValue31
  t5 := Try.underlying5
  a5 := Try.isAgg5
  z5 := Try.sizeOf5
  v5 := Try.zeroValue5
  t91 := Try.underlying65
  a91 := Try.isAgg65
  z91 := Try.sizeOf65
  v91 := Try.zeroValue65
  i0 := by kernel_rfl
  i3 := by kernel_rfl
  i4 := by kernel_rfl
  i5 := by kernel_rfl
  i9 := by kernel_rfl
  i37 := by kernel_rfl
  i91 := by kernel_rfl
  i93 := by kernel_rfl
  i130 := by kernel_rfl }
open Go.RowKit in
theorem Try.Buffer_String (B b : Nat) (l : List UInt8) (w : World) (h : Lib.IsBuffer 67 5 B b (Lib.byteCells l) w) :
    Calls Try.prog 53 #[.pointer (some ⟨b, 0, none⟩)] w fun e w' => e = .returned (.string ⟨l.toArray⟩) ∧ ∃ n, w' = w.drewN n := Any.Buffer_String Try.laysM182 B b l w h
def Try.laysM251_ren : Go.Shelf.Ren := ⟨fun | 251 => 95 | n => n, fun | 130 => 31 | 3 => 3 | 4 => 4 | 0 => 0 | 93 => 67 | 37 => 54 | 91 => 65 | 5 => 5 | n => n, fun | n => n⟩
theorem Try.laysM251 : Go.Proofs.LaysM.n251 Try.prog Try.laysM251_ren := {
  mixed := by kernel_rfl
  f251 := Try.func95.trans (congrArg some (by kernel_rfl))
  t0 := Try.underlying0
  a0 := Try.isAgg0
  z0 := Try.sizeOf0
  v0 := Try.zeroValue0
  t3 := Try.underlying3
  a3 := Try.isAgg3
  z3 := Try.sizeOf3
  v3 := Try.zeroValue3
  t4 := Try.underlying4
  a4 := Try.isAgg4
  z4 := Try.sizeOf4
  v4 := Try.zeroValue4
  t37 := Try.underlying54
  a37 := Try.isAgg54
  z37 := Try.sizeOf54
  v37 := Try.zeroValue54
  t93 := Try.underlying67
  a93 := Try.isAgg67
  z93 := Try.sizeOf67
  v93 := Try.zeroValue67
  t130 := Try.underlying31
  a130 := Try.isAgg31
  z130 := Try.sizeOf31
  v130 := Try.zeroValue31
  t5 := Try.underlying5
  a5 := Try.isAgg5
  z5 := Try.sizeOf5
  v5 := Try.zeroValue5
  t91 := Try.underlying65
  a91 := Try.isAgg65
  z91 := Try.sizeOf65
  v91 := Try.zeroValue65
  i0 := by kernel_rfl
  i3 := by kernel_rfl
  i4 := by kernel_rfl
  i5 := by kernel_rfl
  i37 := by kernel_rfl
  i91 := by kernel_rfl
  i93 := by kernel_rfl
  i130 := by kernel_rfl }
open Go.RowKit in
theorem Try.Buffer_tryGrow_room (b : Nat) (ao : Option Addr) (l cap n : Nat) (w : World) (c0 : w.cell? ⟨b, 0, none⟩ = some (.slice ao l cap)) (f0 : w.frozen? ⟨b, 0, none⟩ = false) (hlc : l ≤ cap) (hcap : cap ≤ maxLen) (hn : n ≤ cap - l) :
    Calls Try.prog 95 #[.pointer (some ⟨b, 0, none⟩), .int .i64 n] w fun e w' => e = .returned (.tuple #[.int .i64 l, .bool true]) ∧ w' = w.setCell ⟨b, 0, none⟩ (.slice ao (l + n) cap) := Any.Buffer_tryGrow_room Try.laysM251 b ao l cap n w c0 f0 hlc hcap hn
open Go.RowKit in
theorem Try.Buffer_tryGrow_none (b : Nat) (ao : Option Addr) (l cap n : Nat) (w : World) (c0 : w.cell? ⟨b, 0, none⟩ = some (.slice ao l cap)) (hlc : l ≤ cap) (hcap : cap ≤ maxLen) (hn : cap - l < n) :
    Calls Try.prog 95 #[.pointer (some ⟨b, 0, none⟩), .int .i64 n] w fun e w' => e = .returned (.tuple #[.int .i64 0, .bool false]) ∧ w' = w := Any.Buffer_tryGrow_none Try.laysM251 b ao l cap n w c0 hlc hcap hn
def Try.laysM290_ren : Go.Shelf.Ren := ⟨fun | 290 => 98 | 324 => 99 | n => n, fun | 37 => 54 | 3 => 3 | 0 => 0 | 4 => 4 | 20 => 20 | 75 => 90 | 5 => 5 | 80 => 94 | 9 => 9 | n => n, fun | 14 => 0 | n => n⟩
theorem Try.laysM290 : Go.Proofs.LaysM.n290 Try.prog Try.laysM290_ren := {
  mixed := by kernel_rfl
  f290 := Try.func98.trans (congrArg some (by kernel_rfl))
  f324 := Try.func99.trans (congrArg some (by kernel_rfl))
  t0 := Try.underlying0
  a0 := Try.isAgg0
  z0 := Try.sizeOf0
  v0 := Try.zeroValue0
  t3 := Try.underlying3
  a3 := Try.isAgg3
  z3 := Try.sizeOf3
  v3 := Try.zeroValue3
  t4 := Try.underlying4
  a4 := Try.isAgg4
  z4 := Try.sizeOf4
  v4 := Try.zeroValue4
  t20 := Try.underlying20
  a20 := Try.isAgg20
  z20 := Try.sizeOf20
  v20 := Try.zeroValue20
  t37 := Try.underlying54
  a37 := Try.isAgg54
  z37 := Try.sizeOf54
  v37 := Try.zeroValue54
  t75 := Try.underlying90
  a75 := Try.isAgg90
  z75 := Try.sizeOf90
  v75 := Try.zeroValue90
  g14 := by kernel_rfl
  t5 := Try.underlying5
  a5 := Try.isAgg5
  z5 := Try.sizeOf5
  v5 := Try.zeroValue5
  t9 := Try.underlying9
  a9 := Try.isAgg9
  z9 := Try.sizeOf9
  v9 := Try.zeroValue9
  t80 := Try.underlying94
  a80 := Try.isAgg94
  z80 := Try.sizeOf94
  v80 := Try.zeroValue94
  i0 := by kernel_rfl
  i3 := by kernel_rfl
  i4 := by kernel_rfl
  i5 := by kernel_rfl
  i9 := by kernel_rfl
  i20 := by kernel_rfl
  i37 := by kernel_rfl
  i75 := by kernel_rfl
  i80 := by kernel_rfl
  m14 := by kernel_rfl }
open Go.RowKit in
theorem Try.bytes_growSlice_row (g l c n : Nat) (cur : Array Value) (w : World) (hg : w.heap[g]? = some (.cells cur 5 (0, 0))) (hcs : cur.size = c) (hlc : l ≤ c) (hn : 1 ≤ n) (hlim : l + n ≤ 140737488355328) (hc2 : c ≤ 140737488355328) (h1 : ∀ v ∈ cur.toList.take l, v.oneCell' = true) :
    Calls Try.prog 98 #[.slice (some ⟨g, 0, none⟩) l c, .int .i64 n] w fun e w' => ∃ cap2 cells, e = .returned (.slice (some ⟨w.heap.size, 0, none⟩) l cap2) ∧ w'.heap[w.heap.size]? = some (.cells cells 5 (0, 0)) ∧
      cells.size = cap2 ∧ cells.toList.take l = cur.toList.take l ∧ l + n ≤ cap2 ∧ cap2 ≤ maxLen ∧ Below w.heap.size w w' := Any.bytes_growSlice_row Try.laysM290 g l c n cur w hg hcs hlc hn hlim hc2 h1
open Go.RowKit in
theorem Try.bytes_growSlice_nil (n : Nat) (w : World) (hn : 1 ≤ n) (hlim : n ≤ 140737488355328) :
    Calls Try.prog 98 #[.slice none 0 0, .int .i64 n] w fun e w' => ∃ cap2 cells, e = .returned (.slice (some ⟨w.heap.size, 0, none⟩) 0 cap2) ∧ w'.heap[w.heap.size]? = some (.cells cells 5 (0, 0)) ∧
      cells.size = cap2 ∧ n ≤ cap2 ∧ cap2 ≤ maxLen ∧ Below w.heap.size w w' := Any.bytes_growSlice_nil Try.laysM290 n w hn hlim
end Go.Proofs
