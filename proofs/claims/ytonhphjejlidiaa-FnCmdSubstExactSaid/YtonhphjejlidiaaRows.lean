/-
  No cell of these rows narrows 'for every input' (looked for: loops, veiled, ifaces, maps, wideKeys, modest, calm, conditions, laid).
  DERIVED. THE GIVEN ROWS OF THIS SEAT. 10 by the template 'for every input the law returns true; each argument reads behind the call as it read before'; 0 by the template 'total and deterministic' (their statements: YtonhphjejlidiaaTotals.lean).
  GIVEN WITH THE SEED: the statements are not yours to turn. If you find one false, say at which input.
  Laid BY PROGRAM, IN A SANDBOX (cutbox-rows.mjs): the forced cells as the released guide's own fill.sh prints them over the translation 15ad64b9bf2b70dd… (all of the seat's roots in one cut). By AI agents, Wed Nov 11 2026. No macro, syntax, notation, axiom, sorry.
-/
import Derived.Test.YtonhphjejlidiaaChecked
import GoSem.Claim
import GoSem.ClaimJoined
import GoSem.ClaimMapViews
import Derived.JoinedTies
import Derived.KernelRfl
namespace Go.Proofs.Ytonhphjejlidiaa
/- THE CELL 'sum', in the pinned program and in every row, IS THE sha256 OF THE DUMP (.gsa) THAT YtonhphjejlidiaaProg.lean LOADS. Nothing in Lean hashes anything: it is a label: what it is worth is what the hold of that sum in a sandbox is worth. -/
noncomputable def Try.pinned : Pinned := { name := "ytonhphjejlidiaa", sum := "15ad64b9bf2b70dde851503587d3868fb8360c3f2f8a29fe022d5612fc1c0707", checked := Try.checked }
namespace Rows
def none {H : Type} : Left H := { results := [], args := [] }

/-- 'n010_43.FnSpacedTokenAgreesString': WHATEVER THE INPUT: true; the input reads as it did. -/
def fnSpacedTokenAgreesStringSpec : ChangeSpec := { name := "fnSpacedTokenAgreesString", fn := fun _ => fun
  | [d1, d2, d3, d4, d5, d6, d7] => { results := [.lit (.bool true)], args := [d1, d2, d3, d4, d5, d6, d7] }
  | _ => none }
def fnSpacedTokenAgreesStringRow : OpenClaim := { program := "ytonhphjejlidiaa", sum := "15ad64b9bf2b70dde851503587d3868fb8360c3f2f8a29fe022d5612fc1c0707", func := "mvdan.cc/sh/v3/n010_43.FnSpacedTokenAgreesString", spec := "fnSpacedTokenAgreesString", unfollowed := true, recurses := true, apart := false }
def FnSpacedTokenAgreesStringSaid : Prop := fnSpacedTokenAgreesStringRow.holds Try.pinned (OpenSpec.ofChange fnSpacedTokenAgreesStringSpec)

/-- ITS FALSE NEIGHBOUR: 'it returns false'. Refute it at one input. -/
def fnSpacedTokenAgreesStringWrong : ChangeSpec := { name := "fnSpacedTokenAgreesString", fn := fun _ => fun
  | [d1, d2, d3, d4, d5, d6, d7] => { results := [.lit (.bool false)], args := [d1, d2, d3, d4, d5, d6, d7] }
  | _ => none }
def FnSpacedTokenAgreesStringWrongFalsely : Prop := fnSpacedTokenAgreesStringRow.holds Try.pinned (OpenSpec.ofChange fnSpacedTokenAgreesStringWrong)

/-- 'n010_151.FnSpaceWritesOneBlankAndMarksWritten': WHATEVER THE INPUT: true; the input reads as it did. -/
def fnSpaceWritesOneBlankAndMarksWrittenSpec : ChangeSpec := { name := "fnSpaceWritesOneBlankAndMarksWritten", fn := fun _ => fun
  | [d1, d2, d3] => { results := [.lit (.bool true)], args := [d1, d2, d3] }
  | _ => none }
def fnSpaceWritesOneBlankAndMarksWrittenRow : OpenClaim := { program := "ytonhphjejlidiaa", sum := "15ad64b9bf2b70dde851503587d3868fb8360c3f2f8a29fe022d5612fc1c0707", func := "mvdan.cc/sh/v3/n010_151.FnSpaceWritesOneBlankAndMarksWritten", spec := "fnSpaceWritesOneBlankAndMarksWritten", unfollowed := true, recurses := true, apart := false }
def FnSpaceWritesOneBlankAndMarksWrittenSaid : Prop := fnSpaceWritesOneBlankAndMarksWrittenRow.holds Try.pinned (OpenSpec.ofChange fnSpaceWritesOneBlankAndMarksWrittenSpec)

/-- ITS FALSE NEIGHBOUR: 'it returns false'. Refute it at one input. -/
def fnSpaceWritesOneBlankAndMarksWrittenWrong : ChangeSpec := { name := "fnSpaceWritesOneBlankAndMarksWritten", fn := fun _ => fun
  | [d1, d2, d3] => { results := [.lit (.bool false)], args := [d1, d2, d3] }
  | _ => none }
def FnSpaceWritesOneBlankAndMarksWrittenWrongFalsely : Prop := fnSpaceWritesOneBlankAndMarksWrittenRow.holds Try.pinned (OpenSpec.ofChange fnSpaceWritesOneBlankAndMarksWrittenWrong)

/-- 'n010_151.FnSpacePadWithoutKeepPaddingNeverPads': WHATEVER THE INPUT: true; the input reads as it did. -/
def fnSpacePadWithoutKeepPaddingNeverPadsSpec : ChangeSpec := { name := "fnSpacePadWithoutKeepPaddingNeverPads", fn := fun _ => fun
  | [d1, d2, d3, d4, d5] => { results := [.lit (.bool true)], args := [d1, d2, d3, d4, d5] }
  | _ => none }
def fnSpacePadWithoutKeepPaddingNeverPadsRow : OpenClaim := { program := "ytonhphjejlidiaa", sum := "15ad64b9bf2b70dde851503587d3868fb8360c3f2f8a29fe022d5612fc1c0707", func := "mvdan.cc/sh/v3/n010_151.FnSpacePadWithoutKeepPaddingNeverPads", spec := "fnSpacePadWithoutKeepPaddingNeverPads", unfollowed := true, recurses := true, apart := false }
def FnSpacePadWithoutKeepPaddingNeverPadsSaid : Prop := fnSpacePadWithoutKeepPaddingNeverPadsRow.holds Try.pinned (OpenSpec.ofChange fnSpacePadWithoutKeepPaddingNeverPadsSpec)

/-- ITS FALSE NEIGHBOUR: 'it returns false'. Refute it at one input. -/
def fnSpacePadWithoutKeepPaddingNeverPadsWrong : ChangeSpec := { name := "fnSpacePadWithoutKeepPaddingNeverPads", fn := fun _ => fun
  | [d1, d2, d3, d4, d5] => { results := [.lit (.bool false)], args := [d1, d2, d3, d4, d5] }
  | _ => none }
def FnSpacePadWithoutKeepPaddingNeverPadsWrongFalsely : Prop := fnSpacePadWithoutKeepPaddingNeverPadsRow.holds Try.pinned (OpenSpec.ofChange fnSpacePadWithoutKeepPaddingNeverPadsWrong)

/-- 'n010_151.FnSpacesAppendsExactlyNBlanks': WHATEVER THE INPUT: true; the input reads as it did. -/
def fnSpacesAppendsExactlyNBlanksSpec : ChangeSpec := { name := "fnSpacesAppendsExactlyNBlanks", fn := fun _ => fun
  | [d1, d2, d3, d4] => { results := [.lit (.bool true)], args := [d1, d2, d3, d4] }
  | _ => none }
def fnSpacesAppendsExactlyNBlanksRow : OpenClaim := { program := "ytonhphjejlidiaa", sum := "15ad64b9bf2b70dde851503587d3868fb8360c3f2f8a29fe022d5612fc1c0707", func := "mvdan.cc/sh/v3/n010_151.FnSpacesAppendsExactlyNBlanks", spec := "fnSpacesAppendsExactlyNBlanks", unfollowed := true, recurses := true, apart := false }
def FnSpacesAppendsExactlyNBlanksSaid : Prop := fnSpacesAppendsExactlyNBlanksRow.holds Try.pinned (OpenSpec.ofChange fnSpacesAppendsExactlyNBlanksSpec)

/-- ITS FALSE NEIGHBOUR: 'it returns false'. Refute it at one input. -/
def fnSpacesAppendsExactlyNBlanksWrong : ChangeSpec := { name := "fnSpacesAppendsExactlyNBlanks", fn := fun _ => fun
  | [d1, d2, d3, d4] => { results := [.lit (.bool false)], args := [d1, d2, d3, d4] }
  | _ => none }
def FnSpacesAppendsExactlyNBlanksWrongFalsely : Prop := fnSpacesAppendsExactlyNBlanksRow.holds Try.pinned (OpenSpec.ofChange fnSpacesAppendsExactlyNBlanksWrong)

/-- 'n010_151.FnSpaceTwiceAgreesWithSpacesTwo': WHATEVER THE INPUT: true; the input reads as it did. -/
def fnSpaceTwiceAgreesWithSpacesTwoSpec : ChangeSpec := { name := "fnSpaceTwiceAgreesWithSpacesTwo", fn := fun _ => fun
  | [d1, d2] => { results := [.lit (.bool true)], args := [d1, d2] }
  | _ => none }
def fnSpaceTwiceAgreesWithSpacesTwoRow : OpenClaim := { program := "ytonhphjejlidiaa", sum := "15ad64b9bf2b70dde851503587d3868fb8360c3f2f8a29fe022d5612fc1c0707", func := "mvdan.cc/sh/v3/n010_151.FnSpaceTwiceAgreesWithSpacesTwo", spec := "fnSpaceTwiceAgreesWithSpacesTwo", unfollowed := true, recurses := true, apart := false }
def FnSpaceTwiceAgreesWithSpacesTwoSaid : Prop := fnSpaceTwiceAgreesWithSpacesTwoRow.holds Try.pinned (OpenSpec.ofChange fnSpaceTwiceAgreesWithSpacesTwoSpec)

/-- ITS FALSE NEIGHBOUR: 'it returns false'. Refute it at one input. -/
def fnSpaceTwiceAgreesWithSpacesTwoWrong : ChangeSpec := { name := "fnSpaceTwiceAgreesWithSpacesTwo", fn := fun _ => fun
  | [d1, d2] => { results := [.lit (.bool false)], args := [d1, d2] }
  | _ => none }
def FnSpaceTwiceAgreesWithSpacesTwoWrongFalsely : Prop := fnSpaceTwiceAgreesWithSpacesTwoRow.holds Try.pinned (OpenSpec.ofChange fnSpaceTwiceAgreesWithSpacesTwoWrong)

/-- 'n010_82.FnCmdSubstExact': WHATEVER THE INPUT: true; the input reads as it did. -/
def fnCmdSubstExactSpec : ChangeSpec := { name := "fnCmdSubstExact", fn := fun _ => fun
  | [d1, d2] => { results := [.lit (.bool true)], args := [d1, d2] }
  | _ => none }
def fnCmdSubstExactRow : OpenClaim := { program := "ytonhphjejlidiaa", sum := "15ad64b9bf2b70dde851503587d3868fb8360c3f2f8a29fe022d5612fc1c0707", func := "mvdan.cc/sh/v3/n010_82.FnCmdSubstExact", spec := "fnCmdSubstExact", unfollowed := true, recurses := true, apart := false }
def FnCmdSubstExactSaid : Prop := fnCmdSubstExactRow.holds Try.pinned (OpenSpec.ofChange fnCmdSubstExactSpec)

/-- ITS FALSE NEIGHBOUR: 'it returns false'. Refute it at one input. -/
def fnCmdSubstExactWrong : ChangeSpec := { name := "fnCmdSubstExact", fn := fun _ => fun
  | [d1, d2] => { results := [.lit (.bool false)], args := [d1, d2] }
  | _ => none }
def FnCmdSubstExactWrongFalsely : Prop := fnCmdSubstExactRow.holds Try.pinned (OpenSpec.ofChange fnCmdSubstExactWrong)

/-- 'n010_151.FnSpacesAdditiveAndAdvanceColumn': WHATEVER THE INPUT: true; the input reads as it did. -/
def fnSpacesAdditiveAndAdvanceColumnSpec : ChangeSpec := { name := "fnSpacesAdditiveAndAdvanceColumn", fn := fun _ => fun
  | [d1, d2, d3] => { results := [.lit (.bool true)], args := [d1, d2, d3] }
  | _ => none }
def fnSpacesAdditiveAndAdvanceColumnRow : OpenClaim := { program := "ytonhphjejlidiaa", sum := "15ad64b9bf2b70dde851503587d3868fb8360c3f2f8a29fe022d5612fc1c0707", func := "mvdan.cc/sh/v3/n010_151.FnSpacesAdditiveAndAdvanceColumn", spec := "fnSpacesAdditiveAndAdvanceColumn", unfollowed := true, recurses := true, apart := false }
def FnSpacesAdditiveAndAdvanceColumnSaid : Prop := fnSpacesAdditiveAndAdvanceColumnRow.holds Try.pinned (OpenSpec.ofChange fnSpacesAdditiveAndAdvanceColumnSpec)

/-- ITS FALSE NEIGHBOUR: 'it returns false'. Refute it at one input. -/
def fnSpacesAdditiveAndAdvanceColumnWrong : ChangeSpec := { name := "fnSpacesAdditiveAndAdvanceColumn", fn := fun _ => fun
  | [d1, d2, d3] => { results := [.lit (.bool false)], args := [d1, d2, d3] }
  | _ => none }
def FnSpacesAdditiveAndAdvanceColumnWrongFalsely : Prop := fnSpacesAdditiveAndAdvanceColumnRow.holds Try.pinned (OpenSpec.ofChange fnSpacesAdditiveAndAdvanceColumnWrong)

/-- 'n010_43.FnSpacedStringAligned': WHATEVER THE INPUT: true; the input reads as it did. -/
def fnSpacedStringAlignedSpec : ChangeSpec := { name := "fnSpacedStringAligned", fn := fun _ => fun
  | [d1, d2, d3, d4, d5, d6, d7] => { results := [.lit (.bool true)], args := [d1, d2, d3, d4, d5, d6, d7] }
  | _ => none }
def fnSpacedStringAlignedRow : OpenClaim := { program := "ytonhphjejlidiaa", sum := "15ad64b9bf2b70dde851503587d3868fb8360c3f2f8a29fe022d5612fc1c0707", func := "mvdan.cc/sh/v3/n010_43.FnSpacedStringAligned", spec := "fnSpacedStringAligned", unfollowed := true, recurses := true, apart := false }
def FnSpacedStringAlignedSaid : Prop := fnSpacedStringAlignedRow.holds Try.pinned (OpenSpec.ofChange fnSpacedStringAlignedSpec)

/-- ITS FALSE NEIGHBOUR: 'it returns false'. Refute it at one input. -/
def fnSpacedStringAlignedWrong : ChangeSpec := { name := "fnSpacedStringAligned", fn := fun _ => fun
  | [d1, d2, d3, d4, d5, d6, d7] => { results := [.lit (.bool false)], args := [d1, d2, d3, d4, d5, d6, d7] }
  | _ => none }
def FnSpacedStringAlignedWrongFalsely : Prop := fnSpacedStringAlignedRow.holds Try.pinned (OpenSpec.ofChange fnSpacedStringAlignedWrong)

/-- 'n010_43.FnBslashNewlOneLine': WHATEVER THE INPUT: true; the input reads as it did. -/
def fnBslashNewlOneLineSpec : ChangeSpec := { name := "fnBslashNewlOneLine", fn := fun _ => fun
  | [d1, d2, d3, d4, d5, d6, d7] => { results := [.lit (.bool true)], args := [d1, d2, d3, d4, d5, d6, d7] }
  | _ => none }
def fnBslashNewlOneLineRow : OpenClaim := { program := "ytonhphjejlidiaa", sum := "15ad64b9bf2b70dde851503587d3868fb8360c3f2f8a29fe022d5612fc1c0707", func := "mvdan.cc/sh/v3/n010_43.FnBslashNewlOneLine", spec := "fnBslashNewlOneLine", unfollowed := true, recurses := true, apart := false }
def FnBslashNewlOneLineSaid : Prop := fnBslashNewlOneLineRow.holds Try.pinned (OpenSpec.ofChange fnBslashNewlOneLineSpec)

/-- ITS FALSE NEIGHBOUR: 'it returns false'. Refute it at one input. -/
def fnBslashNewlOneLineWrong : ChangeSpec := { name := "fnBslashNewlOneLine", fn := fun _ => fun
  | [d1, d2, d3, d4, d5, d6, d7] => { results := [.lit (.bool false)], args := [d1, d2, d3, d4, d5, d6, d7] }
  | _ => none }
def FnBslashNewlOneLineWrongFalsely : Prop := fnBslashNewlOneLineRow.holds Try.pinned (OpenSpec.ofChange fnBslashNewlOneLineWrong)

/-- 'n010_151.FnSpacePadPadsToColumn': WHATEVER THE INPUT: true; the input reads as it did. -/
def fnSpacePadPadsToColumnSpec : ChangeSpec := { name := "fnSpacePadPadsToColumn", fn := fun _ => fun
  | [d1, d2, d3, d4, d5] => { results := [.lit (.bool true)], args := [d1, d2, d3, d4, d5] }
  | _ => none }
def fnSpacePadPadsToColumnRow : OpenClaim := { program := "ytonhphjejlidiaa", sum := "15ad64b9bf2b70dde851503587d3868fb8360c3f2f8a29fe022d5612fc1c0707", func := "mvdan.cc/sh/v3/n010_151.FnSpacePadPadsToColumn", spec := "fnSpacePadPadsToColumn", unfollowed := true, recurses := true, apart := false }
def FnSpacePadPadsToColumnSaid : Prop := fnSpacePadPadsToColumnRow.holds Try.pinned (OpenSpec.ofChange fnSpacePadPadsToColumnSpec)

/-- ITS FALSE NEIGHBOUR: 'it returns false'. Refute it at one input. -/
def fnSpacePadPadsToColumnWrong : ChangeSpec := { name := "fnSpacePadPadsToColumn", fn := fun _ => fun
  | [d1, d2, d3, d4, d5] => { results := [.lit (.bool false)], args := [d1, d2, d3, d4, d5] }
  | _ => none }
def FnSpacePadPadsToColumnWrongFalsely : Prop := fnSpacePadPadsToColumnRow.holds Try.pinned (OpenSpec.ofChange fnSpacePadPadsToColumnWrong)

/- THE SECOND FORM. 'bulk': how many values and letters a reading holds, each counted each time it is reached (what is shared counts as often as it is met; a slice's spare places count too). A statement '..UptoSaid' is the law's where the arguments, and the package variables that the reading takes, are together of bulk at most 1048576: NARROWER than '..Said'. Prove '..Said' where nothing that the law and all that it calls make is longer than what came in: it says more and counts as full. Else prove '..UptoSaid'. A law counts once. -/
mutual
def uptoBulk {H : Type} : DataW H → Nat
  | .lit (.string bytes) => bytes.length + 1
  | .lit _ => 1
  | .nil => 1
  | .ptr d => uptoBulk d + 1
  | .slice elems spare => uptoBulkAll elems + uptoBulkAll spare + 1
  | .agg parts => uptoBulkAll parts + 1
  | .iface _ d => uptoBulk d + 1
  | .map entries => uptoBulkEntries entries + 1
  | .held _ => 1
def uptoBulkAll {H : Type} : List (DataW H) → Nat
  | [] => 0
  | d :: r => uptoBulk d + uptoBulkAll r
def uptoBulkEntries {H : Type} : List (Lit × DataW H) → Nat
  | [] => 0
  | x :: r => uptoBulkEntry x + uptoBulkEntries r
def uptoBulkEntry {H : Type} : Lit × DataW H → Nat
  | (.string bytes, d) => bytes.length + uptoBulk d + 1
  | (_, d) => uptoBulk d + 1
 end
def uptoSmall : (H : Type) → List (DataW H) → Bool := fun _ ds => decide (uptoBulkAll ds ≤ 1048576)
def OpenSpec.upto (s : _root_.Go.ChangeSpec) : _root_.Go.OpenSpec := { _root_.Go.OpenSpec.ofChange s with cond := some uptoSmall }

/-- 'n010_43.FnSpacedTokenAgreesString', WHERE WHAT IT READS IS OF BULK AT MOST 1048576: true; the input reads as it did. -/
def fnSpacedTokenAgreesStringUptoRow : OpenClaim := { program := "ytonhphjejlidiaa", sum := "15ad64b9bf2b70dde851503587d3868fb8360c3f2f8a29fe022d5612fc1c0707", func := "mvdan.cc/sh/v3/n010_43.FnSpacedTokenAgreesString", spec := "fnSpacedTokenAgreesString", unfollowed := true, recurses := true, apart := false, narrowed := true }
def FnSpacedTokenAgreesStringUptoSaid : Prop := fnSpacedTokenAgreesStringUptoRow.holds Try.pinned (OpenSpec.upto fnSpacedTokenAgreesStringSpec)

/-- 'n010_151.FnSpaceWritesOneBlankAndMarksWritten', WHERE WHAT IT READS IS OF BULK AT MOST 1048576: true; the input reads as it did. -/
def fnSpaceWritesOneBlankAndMarksWrittenUptoRow : OpenClaim := { program := "ytonhphjejlidiaa", sum := "15ad64b9bf2b70dde851503587d3868fb8360c3f2f8a29fe022d5612fc1c0707", func := "mvdan.cc/sh/v3/n010_151.FnSpaceWritesOneBlankAndMarksWritten", spec := "fnSpaceWritesOneBlankAndMarksWritten", unfollowed := true, recurses := true, apart := false, narrowed := true }
def FnSpaceWritesOneBlankAndMarksWrittenUptoSaid : Prop := fnSpaceWritesOneBlankAndMarksWrittenUptoRow.holds Try.pinned (OpenSpec.upto fnSpaceWritesOneBlankAndMarksWrittenSpec)

/-- 'n010_151.FnSpacePadWithoutKeepPaddingNeverPads', WHERE WHAT IT READS IS OF BULK AT MOST 1048576: true; the input reads as it did. -/
def fnSpacePadWithoutKeepPaddingNeverPadsUptoRow : OpenClaim := { program := "ytonhphjejlidiaa", sum := "15ad64b9bf2b70dde851503587d3868fb8360c3f2f8a29fe022d5612fc1c0707", func := "mvdan.cc/sh/v3/n010_151.FnSpacePadWithoutKeepPaddingNeverPads", spec := "fnSpacePadWithoutKeepPaddingNeverPads", unfollowed := true, recurses := true, apart := false, narrowed := true }
def FnSpacePadWithoutKeepPaddingNeverPadsUptoSaid : Prop := fnSpacePadWithoutKeepPaddingNeverPadsUptoRow.holds Try.pinned (OpenSpec.upto fnSpacePadWithoutKeepPaddingNeverPadsSpec)

/-- 'n010_151.FnSpacesAppendsExactlyNBlanks', WHERE WHAT IT READS IS OF BULK AT MOST 1048576: true; the input reads as it did. -/
def fnSpacesAppendsExactlyNBlanksUptoRow : OpenClaim := { program := "ytonhphjejlidiaa", sum := "15ad64b9bf2b70dde851503587d3868fb8360c3f2f8a29fe022d5612fc1c0707", func := "mvdan.cc/sh/v3/n010_151.FnSpacesAppendsExactlyNBlanks", spec := "fnSpacesAppendsExactlyNBlanks", unfollowed := true, recurses := true, apart := false, narrowed := true }
def FnSpacesAppendsExactlyNBlanksUptoSaid : Prop := fnSpacesAppendsExactlyNBlanksUptoRow.holds Try.pinned (OpenSpec.upto fnSpacesAppendsExactlyNBlanksSpec)

/-- 'n010_151.FnSpaceTwiceAgreesWithSpacesTwo', WHERE WHAT IT READS IS OF BULK AT MOST 1048576: true; the input reads as it did. -/
def fnSpaceTwiceAgreesWithSpacesTwoUptoRow : OpenClaim := { program := "ytonhphjejlidiaa", sum := "15ad64b9bf2b70dde851503587d3868fb8360c3f2f8a29fe022d5612fc1c0707", func := "mvdan.cc/sh/v3/n010_151.FnSpaceTwiceAgreesWithSpacesTwo", spec := "fnSpaceTwiceAgreesWithSpacesTwo", unfollowed := true, recurses := true, apart := false, narrowed := true }
def FnSpaceTwiceAgreesWithSpacesTwoUptoSaid : Prop := fnSpaceTwiceAgreesWithSpacesTwoUptoRow.holds Try.pinned (OpenSpec.upto fnSpaceTwiceAgreesWithSpacesTwoSpec)

/-- 'n010_82.FnCmdSubstExact', WHERE WHAT IT READS IS OF BULK AT MOST 1048576: true; the input reads as it did. -/
def fnCmdSubstExactUptoRow : OpenClaim := { program := "ytonhphjejlidiaa", sum := "15ad64b9bf2b70dde851503587d3868fb8360c3f2f8a29fe022d5612fc1c0707", func := "mvdan.cc/sh/v3/n010_82.FnCmdSubstExact", spec := "fnCmdSubstExact", unfollowed := true, recurses := true, apart := false, narrowed := true }
def FnCmdSubstExactUptoSaid : Prop := fnCmdSubstExactUptoRow.holds Try.pinned (OpenSpec.upto fnCmdSubstExactSpec)

/-- 'n010_151.FnSpacesAdditiveAndAdvanceColumn', WHERE WHAT IT READS IS OF BULK AT MOST 1048576: true; the input reads as it did. -/
def fnSpacesAdditiveAndAdvanceColumnUptoRow : OpenClaim := { program := "ytonhphjejlidiaa", sum := "15ad64b9bf2b70dde851503587d3868fb8360c3f2f8a29fe022d5612fc1c0707", func := "mvdan.cc/sh/v3/n010_151.FnSpacesAdditiveAndAdvanceColumn", spec := "fnSpacesAdditiveAndAdvanceColumn", unfollowed := true, recurses := true, apart := false, narrowed := true }
def FnSpacesAdditiveAndAdvanceColumnUptoSaid : Prop := fnSpacesAdditiveAndAdvanceColumnUptoRow.holds Try.pinned (OpenSpec.upto fnSpacesAdditiveAndAdvanceColumnSpec)

/-- 'n010_43.FnSpacedStringAligned', WHERE WHAT IT READS IS OF BULK AT MOST 1048576: true; the input reads as it did. -/
def fnSpacedStringAlignedUptoRow : OpenClaim := { program := "ytonhphjejlidiaa", sum := "15ad64b9bf2b70dde851503587d3868fb8360c3f2f8a29fe022d5612fc1c0707", func := "mvdan.cc/sh/v3/n010_43.FnSpacedStringAligned", spec := "fnSpacedStringAligned", unfollowed := true, recurses := true, apart := false, narrowed := true }
def FnSpacedStringAlignedUptoSaid : Prop := fnSpacedStringAlignedUptoRow.holds Try.pinned (OpenSpec.upto fnSpacedStringAlignedSpec)

/-- 'n010_43.FnBslashNewlOneLine', WHERE WHAT IT READS IS OF BULK AT MOST 1048576: true; the input reads as it did. -/
def fnBslashNewlOneLineUptoRow : OpenClaim := { program := "ytonhphjejlidiaa", sum := "15ad64b9bf2b70dde851503587d3868fb8360c3f2f8a29fe022d5612fc1c0707", func := "mvdan.cc/sh/v3/n010_43.FnBslashNewlOneLine", spec := "fnBslashNewlOneLine", unfollowed := true, recurses := true, apart := false, narrowed := true }
def FnBslashNewlOneLineUptoSaid : Prop := fnBslashNewlOneLineUptoRow.holds Try.pinned (OpenSpec.upto fnBslashNewlOneLineSpec)

/-- 'n010_151.FnSpacePadPadsToColumn', WHERE WHAT IT READS IS OF BULK AT MOST 1048576: true; the input reads as it did. -/
def fnSpacePadPadsToColumnUptoRow : OpenClaim := { program := "ytonhphjejlidiaa", sum := "15ad64b9bf2b70dde851503587d3868fb8360c3f2f8a29fe022d5612fc1c0707", func := "mvdan.cc/sh/v3/n010_151.FnSpacePadPadsToColumn", spec := "fnSpacePadPadsToColumn", unfollowed := true, recurses := true, apart := false, narrowed := true }
def FnSpacePadPadsToColumnUptoSaid : Prop := fnSpacePadPadsToColumnUptoRow.holds Try.pinned (OpenSpec.upto fnSpacePadPadsToColumnSpec)

end Rows
end Go.Proofs.Ytonhphjejlidiaa
