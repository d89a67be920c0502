/-
  NARROWER THAN 'FOR EVERY INPUT', by the rows' own cells (each row's printed sentence says how): FnResolveNameRefFollowsOneStep: laid · FnEnvGetMatchesLastPair: laid · FnResolveNonNameRefIsIdentity: laid · FnListEnvironCaseInsensitiveGetFoldsASCII: laid · FnListEnvironCaseSensitiveGetIsLastPairOfName: laid · FnListEnvironGetIsLastPairOfName: laid · FnEnvGetAfterAppend: laid · FnFuncEnvironAgreesWithListEnviron: laid · FnListEnvironLaterPairOverridesOnlyItsName: laid · FnGetReturnsLastPairForName: laid · FnEachStopsAtFirstFalse: laid · FnEachYieldsDistinctNamesInKeyOrderWithLastValues: laid.
  DERIVED. THE GIVEN ROWS OF THIS SEAT. 12 by the template 'for every input the law returns true; each argument reads behind the call as it read before'; 0 by the template 'total and deterministic' (their statements: YthihppocokkoiaaDoorTotals.lean).
  GIVEN WITH THE SEED: the statements are not yours to turn. If you find one false, say at which input.
  Laid BY PROGRAM, IN A SANDBOX (cutbox-rows.mjs): the forced cells as the released guide's own fill.sh prints them over the translation 0cef833331e66429… (all of the seat's roots in one cut). By AI agents, Wed Nov 11 2026. No macro, syntax, notation, axiom, sorry.
-/
import Derived.Test.YthihppocokkoiaaDoorChecked
import GoSem.PinnedTables
import GoSem.Claim
import GoSem.ClaimJoined
import GoSem.ClaimMapViews
import Derived.JoinedTies
import Derived.KernelRfl
namespace Go.Proofs.YthihppocokkoiaaDoor
/- THE CELL 'sum', in the pinned program and in every row, IS THE sha256 OF THE DUMP (.gsa) THAT YthihppocokkoiaaDoorProg.lean LOADS. Nothing in Lean hashes anything: it is a label: what it is worth is what the hold of that sum in a sandbox is worth. -/
noncomputable def Tryd.pinned : Pinned := { name := "ythihppocokkoiaadoor", sum := "0cef833331e66429db203a471a1c0b96a835aac17d84efaa1e9bb8699d05083c", checked := Tryd.checked }
namespace Rows
def none {H : Type} : Left H := { results := [], args := [] }

/- WHAT THE LISTED PACKAGE-LEVEL VARIABLES READ AS WHEN THE CALL BEGINS. Each datum BY PROGRAM (the guide's laid-datum.mjs) off the statement by which the dump's own 'gosem.cut.vars' lays the variable. In a bare row this is a premise. The card (YthihppocokkoiaaDoorCards.lean) ties it to the program's text. -/
def laid_unicode_utf8_acceptRanges {H : Type} : DataW H := .agg [.agg [.lit (.int .u8 128), .lit (.int .u8 191)], .agg [.lit (.int .u8 160), .lit (.int .u8 191)], .agg [.lit (.int .u8 128), .lit (.int .u8 159)], .agg [.lit (.int .u8 144), .lit (.int .u8 191)], .agg [.lit (.int .u8 128), .lit (.int .u8 143)], .agg [.lit (.int .u8 0), .lit (.int .u8 0)], .agg [.lit (.int .u8 0), .lit (.int .u8 0)], .agg [.lit (.int .u8 0), .lit (.int .u8 0)], .agg [.lit (.int .u8 0), .lit (.int .u8 0)], .agg [.lit (.int .u8 0), .lit (.int .u8 0)], .agg [.lit (.int .u8 0), .lit (.int .u8 0)], .agg [.lit (.int .u8 0), .lit (.int .u8 0)], .agg [.lit (.int .u8 0), .lit (.int .u8 0)], .agg [.lit (.int .u8 0), .lit (.int .u8 0)], .agg [.lit (.int .u8 0), .lit (.int .u8 0)], .agg [.lit (.int .u8 0), .lit (.int .u8 0)]]
/-- One of Go's own tables, pinned by name: the form's constant. -/
def laid_unicode_CaseRanges : DataW Unit := Go.Pinned.caseRanges
/-- One of Go's own tables, pinned by name: the form's constant. -/
def laid_unicode_utf8_first : DataW Unit := Go.Pinned.utf8First

/-- 'n010_40.FnResolveNameRefFollowsOneStep': WHATEVER THE INPUT: true; the input reads as it did. -/
def fnResolveNameRefFollowsOneStepSpec : ChangeSpec := { name := "fnResolveNameRefFollowsOneStep", fn := fun _ => fun
  | [d1, d2, d3, d4] => { results := [.lit (.bool true)], args := [d1, d2, d3, d4] }
  | _ => none }
def fnResolveNameRefFollowsOneStepRow : OpenClaim := { program := "ythihppocokkoiaadoor", sum := "0cef833331e66429db203a471a1c0b96a835aac17d84efaa1e9bb8699d05083c", func := "mvdan.cc/sh/v3/n010_40.FnResolveNameRefFollowsOneStep", spec := "fnResolveNameRefFollowsOneStep", inPlace := ["internal/bytealg.IndexByteString", "internal/abi.NoEscape", "internal/bytealg.MakeNoZero", "internal/bytealg.abigen_runtime_cmpstring"], unfollowed := true, recurses := true, named := ["unicode/utf8.first", "unicode/utf8.acceptRanges", "unicode.CaseRanges"], apart := false, laid := [("unicode/utf8.acceptRanges", laid_unicode_utf8_acceptRanges), ("unicode.CaseRanges", laid_unicode_CaseRanges), ("unicode/utf8.first", laid_unicode_utf8_first)] }
def FnResolveNameRefFollowsOneStepSaid : Prop := fnResolveNameRefFollowsOneStepRow.holds Tryd.pinned (OpenSpec.ofChange fnResolveNameRefFollowsOneStepSpec)

/-- ITS FALSE NEIGHBOUR: 'it returns false'. Refute it at one input. -/
def fnResolveNameRefFollowsOneStepWrong : ChangeSpec := { name := "fnResolveNameRefFollowsOneStep", fn := fun _ => fun
  | [d1, d2, d3, d4] => { results := [.lit (.bool false)], args := [d1, d2, d3, d4] }
  | _ => none }
def FnResolveNameRefFollowsOneStepWrongFalsely : Prop := fnResolveNameRefFollowsOneStepRow.holds Tryd.pinned (OpenSpec.ofChange fnResolveNameRefFollowsOneStepWrong)

/-- 'n010_90.FnEnvGetMatchesLastPair': WHATEVER THE INPUT: true; the input reads as it did. -/
def fnEnvGetMatchesLastPairSpec : ChangeSpec := { name := "fnEnvGetMatchesLastPair", fn := fun _ => fun
  | [d1, d2] => { results := [.lit (.bool true)], args := [d1, d2] }
  | _ => none }
def fnEnvGetMatchesLastPairRow : OpenClaim := { program := "ythihppocokkoiaadoor", sum := "0cef833331e66429db203a471a1c0b96a835aac17d84efaa1e9bb8699d05083c", func := "mvdan.cc/sh/v3/n010_90.FnEnvGetMatchesLastPair", spec := "fnEnvGetMatchesLastPair", inPlace := ["internal/bytealg.IndexByteString", "internal/abi.NoEscape", "internal/bytealg.MakeNoZero", "internal/bytealg.abigen_runtime_cmpstring"], unfollowed := true, recurses := true, named := ["unicode/utf8.first", "unicode/utf8.acceptRanges", "unicode.CaseRanges"], apart := false, laid := [("unicode/utf8.acceptRanges", laid_unicode_utf8_acceptRanges), ("unicode.CaseRanges", laid_unicode_CaseRanges), ("unicode/utf8.first", laid_unicode_utf8_first)] }
def FnEnvGetMatchesLastPairSaid : Prop := fnEnvGetMatchesLastPairRow.holds Tryd.pinned (OpenSpec.ofChange fnEnvGetMatchesLastPairSpec)

/-- ITS FALSE NEIGHBOUR: 'it returns false'. Refute it at one input. -/
def fnEnvGetMatchesLastPairWrong : ChangeSpec := { name := "fnEnvGetMatchesLastPair", fn := fun _ => fun
  | [d1, d2] => { results := [.lit (.bool false)], args := [d1, d2] }
  | _ => none }
def FnEnvGetMatchesLastPairWrongFalsely : Prop := fnEnvGetMatchesLastPairRow.holds Tryd.pinned (OpenSpec.ofChange fnEnvGetMatchesLastPairWrong)

/-- 'n010_40.FnResolveNonNameRefIsIdentity': WHATEVER THE INPUT: true; the input reads as it did. -/
def fnResolveNonNameRefIsIdentitySpec : ChangeSpec := { name := "fnResolveNonNameRefIsIdentity", fn := fun _ => fun
  | [d1, d2, d3, d4, d5, d6, d7, d8, d9, d10, d11, d12] => { results := [.lit (.bool true)], args := [d1, d2, d3, d4, d5, d6, d7, d8, d9, d10, d11, d12] }
  | _ => none }
def fnResolveNonNameRefIsIdentityRow : OpenClaim := { program := "ythihppocokkoiaadoor", sum := "0cef833331e66429db203a471a1c0b96a835aac17d84efaa1e9bb8699d05083c", func := "mvdan.cc/sh/v3/n010_40.FnResolveNonNameRefIsIdentity", spec := "fnResolveNonNameRefIsIdentity", inPlace := ["internal/bytealg.IndexByteString", "internal/abi.NoEscape", "internal/bytealg.MakeNoZero", "internal/bytealg.abigen_runtime_cmpstring"], unfollowed := true, recurses := true, named := ["unicode/utf8.first", "unicode/utf8.acceptRanges", "unicode.CaseRanges"], apart := false, laid := [("unicode/utf8.acceptRanges", laid_unicode_utf8_acceptRanges), ("unicode.CaseRanges", laid_unicode_CaseRanges), ("unicode/utf8.first", laid_unicode_utf8_first)] }
def FnResolveNonNameRefIsIdentitySaid : Prop := fnResolveNonNameRefIsIdentityRow.holds Tryd.pinned (OpenSpec.ofChange fnResolveNonNameRefIsIdentitySpec)

/-- ITS FALSE NEIGHBOUR: 'it returns false'. Refute it at one input. -/
def fnResolveNonNameRefIsIdentityWrong : ChangeSpec := { name := "fnResolveNonNameRefIsIdentity", fn := fun _ => fun
  | [d1, d2, d3, d4, d5, d6, d7, d8, d9, d10, d11, d12] => { results := [.lit (.bool false)], args := [d1, d2, d3, d4, d5, d6, d7, d8, d9, d10, d11, d12] }
  | _ => none }
def FnResolveNonNameRefIsIdentityWrongFalsely : Prop := fnResolveNonNameRefIsIdentityRow.holds Tryd.pinned (OpenSpec.ofChange fnResolveNonNameRefIsIdentityWrong)

/-- 'n010_48.FnListEnvironCaseInsensitiveGetFoldsASCII': WHATEVER THE INPUT: true; the input reads as it did. -/
def fnListEnvironCaseInsensitiveGetFoldsASCIISpec : ChangeSpec := { name := "fnListEnvironCaseInsensitiveGetFoldsASCII", fn := fun _ => fun
  | [d1, d2] => { results := [.lit (.bool true)], args := [d1, d2] }
  | _ => none }
def fnListEnvironCaseInsensitiveGetFoldsASCIIRow : OpenClaim := { program := "ythihppocokkoiaadoor", sum := "0cef833331e66429db203a471a1c0b96a835aac17d84efaa1e9bb8699d05083c", func := "mvdan.cc/sh/v3/n010_48.FnListEnvironCaseInsensitiveGetFoldsASCII", spec := "fnListEnvironCaseInsensitiveGetFoldsASCII", inPlace := ["internal/bytealg.IndexByteString", "internal/abi.NoEscape", "internal/bytealg.MakeNoZero", "internal/bytealg.abigen_runtime_cmpstring"], unfollowed := true, recurses := true, named := ["unicode/utf8.first", "unicode/utf8.acceptRanges", "unicode.CaseRanges"], apart := false, laid := [("unicode/utf8.acceptRanges", laid_unicode_utf8_acceptRanges), ("unicode.CaseRanges", laid_unicode_CaseRanges), ("unicode/utf8.first", laid_unicode_utf8_first)] }
def FnListEnvironCaseInsensitiveGetFoldsASCIISaid : Prop := fnListEnvironCaseInsensitiveGetFoldsASCIIRow.holds Tryd.pinned (OpenSpec.ofChange fnListEnvironCaseInsensitiveGetFoldsASCIISpec)

/-- ITS FALSE NEIGHBOUR: 'it returns false'. Refute it at one input. -/
def fnListEnvironCaseInsensitiveGetFoldsASCIIWrong : ChangeSpec := { name := "fnListEnvironCaseInsensitiveGetFoldsASCII", fn := fun _ => fun
  | [d1, d2] => { results := [.lit (.bool false)], args := [d1, d2] }
  | _ => none }
def FnListEnvironCaseInsensitiveGetFoldsASCIIWrongFalsely : Prop := fnListEnvironCaseInsensitiveGetFoldsASCIIRow.holds Tryd.pinned (OpenSpec.ofChange fnListEnvironCaseInsensitiveGetFoldsASCIIWrong)

/-- 'n010_48.FnListEnvironCaseSensitiveGetIsLastPairOfName': WHATEVER THE INPUT: true; the input reads as it did. -/
def fnListEnvironCaseSensitiveGetIsLastPairOfNameSpec : ChangeSpec := { name := "fnListEnvironCaseSensitiveGetIsLastPairOfName", fn := fun _ => fun
  | [d1, d2] => { results := [.lit (.bool true)], args := [d1, d2] }
  | _ => none }
def fnListEnvironCaseSensitiveGetIsLastPairOfNameRow : OpenClaim := { program := "ythihppocokkoiaadoor", sum := "0cef833331e66429db203a471a1c0b96a835aac17d84efaa1e9bb8699d05083c", func := "mvdan.cc/sh/v3/n010_48.FnListEnvironCaseSensitiveGetIsLastPairOfName", spec := "fnListEnvironCaseSensitiveGetIsLastPairOfName", inPlace := ["internal/bytealg.IndexByteString", "internal/abi.NoEscape", "internal/bytealg.MakeNoZero", "internal/bytealg.abigen_runtime_cmpstring"], unfollowed := true, recurses := true, named := ["unicode/utf8.first", "unicode/utf8.acceptRanges", "unicode.CaseRanges"], apart := false, laid := [("unicode/utf8.acceptRanges", laid_unicode_utf8_acceptRanges), ("unicode.CaseRanges", laid_unicode_CaseRanges), ("unicode/utf8.first", laid_unicode_utf8_first)] }
def FnListEnvironCaseSensitiveGetIsLastPairOfNameSaid : Prop := fnListEnvironCaseSensitiveGetIsLastPairOfNameRow.holds Tryd.pinned (OpenSpec.ofChange fnListEnvironCaseSensitiveGetIsLastPairOfNameSpec)

/-- ITS FALSE NEIGHBOUR: 'it returns false'. Refute it at one input. -/
def fnListEnvironCaseSensitiveGetIsLastPairOfNameWrong : ChangeSpec := { name := "fnListEnvironCaseSensitiveGetIsLastPairOfName", fn := fun _ => fun
  | [d1, d2] => { results := [.lit (.bool false)], args := [d1, d2] }
  | _ => none }
def FnListEnvironCaseSensitiveGetIsLastPairOfNameWrongFalsely : Prop := fnListEnvironCaseSensitiveGetIsLastPairOfNameRow.holds Tryd.pinned (OpenSpec.ofChange fnListEnvironCaseSensitiveGetIsLastPairOfNameWrong)

/-- 'n010_48.FnListEnvironGetIsLastPairOfName': WHATEVER THE INPUT: true; the input reads as it did. -/
def fnListEnvironGetIsLastPairOfNameSpec : ChangeSpec := { name := "fnListEnvironGetIsLastPairOfName", fn := fun _ => fun
  | [d1, d2] => { results := [.lit (.bool true)], args := [d1, d2] }
  | _ => none }
def fnListEnvironGetIsLastPairOfNameRow : OpenClaim := { program := "ythihppocokkoiaadoor", sum := "0cef833331e66429db203a471a1c0b96a835aac17d84efaa1e9bb8699d05083c", func := "mvdan.cc/sh/v3/n010_48.FnListEnvironGetIsLastPairOfName", spec := "fnListEnvironGetIsLastPairOfName", inPlace := ["internal/bytealg.IndexByteString", "internal/abi.NoEscape", "internal/bytealg.MakeNoZero", "internal/bytealg.abigen_runtime_cmpstring"], unfollowed := true, recurses := true, named := ["unicode/utf8.first", "unicode/utf8.acceptRanges", "unicode.CaseRanges"], apart := false, laid := [("unicode/utf8.acceptRanges", laid_unicode_utf8_acceptRanges), ("unicode.CaseRanges", laid_unicode_CaseRanges), ("unicode/utf8.first", laid_unicode_utf8_first)] }
def FnListEnvironGetIsLastPairOfNameSaid : Prop := fnListEnvironGetIsLastPairOfNameRow.holds Tryd.pinned (OpenSpec.ofChange fnListEnvironGetIsLastPairOfNameSpec)

/-- ITS FALSE NEIGHBOUR: 'it returns false'. Refute it at one input. -/
def fnListEnvironGetIsLastPairOfNameWrong : ChangeSpec := { name := "fnListEnvironGetIsLastPairOfName", fn := fun _ => fun
  | [d1, d2] => { results := [.lit (.bool false)], args := [d1, d2] }
  | _ => none }
def FnListEnvironGetIsLastPairOfNameWrongFalsely : Prop := fnListEnvironGetIsLastPairOfNameRow.holds Tryd.pinned (OpenSpec.ofChange fnListEnvironGetIsLastPairOfNameWrong)

/-- 'n010_90.FnEnvGetAfterAppend': WHATEVER THE INPUT: true; the input reads as it did. -/
def fnEnvGetAfterAppendSpec : ChangeSpec := { name := "fnEnvGetAfterAppend", fn := fun _ => fun
  | [d1, d2, d3, d4] => { results := [.lit (.bool true)], args := [d1, d2, d3, d4] }
  | _ => none }
def fnEnvGetAfterAppendRow : OpenClaim := { program := "ythihppocokkoiaadoor", sum := "0cef833331e66429db203a471a1c0b96a835aac17d84efaa1e9bb8699d05083c", func := "mvdan.cc/sh/v3/n010_90.FnEnvGetAfterAppend", spec := "fnEnvGetAfterAppend", inPlace := ["internal/bytealg.IndexByteString", "internal/abi.NoEscape", "internal/bytealg.MakeNoZero", "internal/bytealg.abigen_runtime_cmpstring"], unfollowed := true, recurses := true, named := ["unicode/utf8.first", "unicode/utf8.acceptRanges", "unicode.CaseRanges"], apart := false, laid := [("unicode/utf8.acceptRanges", laid_unicode_utf8_acceptRanges), ("unicode.CaseRanges", laid_unicode_CaseRanges), ("unicode/utf8.first", laid_unicode_utf8_first)] }
def FnEnvGetAfterAppendSaid : Prop := fnEnvGetAfterAppendRow.holds Tryd.pinned (OpenSpec.ofChange fnEnvGetAfterAppendSpec)

/-- ITS FALSE NEIGHBOUR: 'it returns false'. Refute it at one input. -/
def fnEnvGetAfterAppendWrong : ChangeSpec := { name := "fnEnvGetAfterAppend", fn := fun _ => fun
  | [d1, d2, d3, d4] => { results := [.lit (.bool false)], args := [d1, d2, d3, d4] }
  | _ => none }
def FnEnvGetAfterAppendWrongFalsely : Prop := fnEnvGetAfterAppendRow.holds Tryd.pinned (OpenSpec.ofChange fnEnvGetAfterAppendWrong)

/-- 'n010_40.FnFuncEnvironAgreesWithListEnviron': WHATEVER THE INPUT: true; the input reads as it did. -/
def fnFuncEnvironAgreesWithListEnvironSpec : ChangeSpec := { name := "fnFuncEnvironAgreesWithListEnviron", fn := fun _ => fun
  | [d1, d2, d3] => { results := [.lit (.bool true)], args := [d1, d2, d3] }
  | _ => none }
def fnFuncEnvironAgreesWithListEnvironRow : OpenClaim := { program := "ythihppocokkoiaadoor", sum := "0cef833331e66429db203a471a1c0b96a835aac17d84efaa1e9bb8699d05083c", func := "mvdan.cc/sh/v3/n010_40.FnFuncEnvironAgreesWithListEnviron", spec := "fnFuncEnvironAgreesWithListEnviron", inPlace := ["internal/bytealg.IndexByteString", "internal/abi.NoEscape", "internal/bytealg.MakeNoZero", "internal/bytealg.abigen_runtime_cmpstring"], unfollowed := true, recurses := true, named := ["unicode/utf8.first", "unicode/utf8.acceptRanges", "unicode.CaseRanges"], apart := false, laid := [("unicode/utf8.acceptRanges", laid_unicode_utf8_acceptRanges), ("unicode.CaseRanges", laid_unicode_CaseRanges), ("unicode/utf8.first", laid_unicode_utf8_first)] }
def FnFuncEnvironAgreesWithListEnvironSaid : Prop := fnFuncEnvironAgreesWithListEnvironRow.holds Tryd.pinned (OpenSpec.ofChange fnFuncEnvironAgreesWithListEnvironSpec)

/-- ITS FALSE NEIGHBOUR: 'it returns false'. Refute it at one input. -/
def fnFuncEnvironAgreesWithListEnvironWrong : ChangeSpec := { name := "fnFuncEnvironAgreesWithListEnviron", fn := fun _ => fun
  | [d1, d2, d3] => { results := [.lit (.bool false)], args := [d1, d2, d3] }
  | _ => none }
def FnFuncEnvironAgreesWithListEnvironWrongFalsely : Prop := fnFuncEnvironAgreesWithListEnvironRow.holds Tryd.pinned (OpenSpec.ofChange fnFuncEnvironAgreesWithListEnvironWrong)

/-- 'n010_48.FnListEnvironLaterPairOverridesOnlyItsName': WHATEVER THE INPUT: true; the input reads as it did. -/
def fnListEnvironLaterPairOverridesOnlyItsNameSpec : ChangeSpec := { name := "fnListEnvironLaterPairOverridesOnlyItsName", fn := fun _ => fun
  | [d1, d2, d3, d4] => { results := [.lit (.bool true)], args := [d1, d2, d3, d4] }
  | _ => none }
def fnListEnvironLaterPairOverridesOnlyItsNameRow : OpenClaim := { program := "ythihppocokkoiaadoor", sum := "0cef833331e66429db203a471a1c0b96a835aac17d84efaa1e9bb8699d05083c", func := "mvdan.cc/sh/v3/n010_48.FnListEnvironLaterPairOverridesOnlyItsName", spec := "fnListEnvironLaterPairOverridesOnlyItsName", inPlace := ["internal/bytealg.IndexByteString", "internal/abi.NoEscape", "internal/bytealg.MakeNoZero", "internal/bytealg.abigen_runtime_cmpstring"], unfollowed := true, recurses := true, named := ["unicode/utf8.first", "unicode/utf8.acceptRanges", "unicode.CaseRanges"], apart := false, laid := [("unicode/utf8.acceptRanges", laid_unicode_utf8_acceptRanges), ("unicode.CaseRanges", laid_unicode_CaseRanges), ("unicode/utf8.first", laid_unicode_utf8_first)] }
def FnListEnvironLaterPairOverridesOnlyItsNameSaid : Prop := fnListEnvironLaterPairOverridesOnlyItsNameRow.holds Tryd.pinned (OpenSpec.ofChange fnListEnvironLaterPairOverridesOnlyItsNameSpec)

/-- ITS FALSE NEIGHBOUR: 'it returns false'. Refute it at one input. -/
def fnListEnvironLaterPairOverridesOnlyItsNameWrong : ChangeSpec := { name := "fnListEnvironLaterPairOverridesOnlyItsName", fn := fun _ => fun
  | [d1, d2, d3, d4] => { results := [.lit (.bool false)], args := [d1, d2, d3, d4] }
  | _ => none }
def FnListEnvironLaterPairOverridesOnlyItsNameWrongFalsely : Prop := fnListEnvironLaterPairOverridesOnlyItsNameRow.holds Tryd.pinned (OpenSpec.ofChange fnListEnvironLaterPairOverridesOnlyItsNameWrong)

/-- 'n010_50.FnGetReturnsLastPairForName': WHATEVER THE INPUT: true; the input reads as it did. -/
def fnGetReturnsLastPairForNameSpec : ChangeSpec := { name := "fnGetReturnsLastPairForName", fn := fun _ => fun
  | [d1, d2] => { results := [.lit (.bool true)], args := [d1, d2] }
  | _ => none }
def fnGetReturnsLastPairForNameRow : OpenClaim := { program := "ythihppocokkoiaadoor", sum := "0cef833331e66429db203a471a1c0b96a835aac17d84efaa1e9bb8699d05083c", func := "mvdan.cc/sh/v3/n010_50.FnGetReturnsLastPairForName", spec := "fnGetReturnsLastPairForName", inPlace := ["internal/bytealg.IndexByteString", "internal/abi.NoEscape", "internal/bytealg.MakeNoZero", "internal/bytealg.abigen_runtime_cmpstring"], unfollowed := true, recurses := true, named := ["unicode/utf8.first", "unicode/utf8.acceptRanges", "unicode.CaseRanges"], apart := false, laid := [("unicode/utf8.acceptRanges", laid_unicode_utf8_acceptRanges), ("unicode.CaseRanges", laid_unicode_CaseRanges), ("unicode/utf8.first", laid_unicode_utf8_first)] }
def FnGetReturnsLastPairForNameSaid : Prop := fnGetReturnsLastPairForNameRow.holds Tryd.pinned (OpenSpec.ofChange fnGetReturnsLastPairForNameSpec)

/-- ITS FALSE NEIGHBOUR: 'it returns false'. Refute it at one input. -/
def fnGetReturnsLastPairForNameWrong : ChangeSpec := { name := "fnGetReturnsLastPairForName", fn := fun _ => fun
  | [d1, d2] => { results := [.lit (.bool false)], args := [d1, d2] }
  | _ => none }
def FnGetReturnsLastPairForNameWrongFalsely : Prop := fnGetReturnsLastPairForNameRow.holds Tryd.pinned (OpenSpec.ofChange fnGetReturnsLastPairForNameWrong)

/-- 'n010_50.FnEachStopsAtFirstFalse': WHATEVER THE INPUT: true; the input reads as it did. -/
def fnEachStopsAtFirstFalseSpec : ChangeSpec := { name := "fnEachStopsAtFirstFalse", fn := fun _ => fun
  | [d1, d2, d3] => { results := [.lit (.bool true)], args := [d1, d2, d3] }
  | _ => none }
def fnEachStopsAtFirstFalseRow : OpenClaim := { program := "ythihppocokkoiaadoor", sum := "0cef833331e66429db203a471a1c0b96a835aac17d84efaa1e9bb8699d05083c", func := "mvdan.cc/sh/v3/n010_50.FnEachStopsAtFirstFalse", spec := "fnEachStopsAtFirstFalse", inPlace := ["internal/bytealg.IndexByteString", "internal/abi.NoEscape", "internal/bytealg.MakeNoZero", "internal/bytealg.abigen_runtime_cmpstring"], unfollowed := true, recurses := true, named := ["unicode/utf8.first", "unicode/utf8.acceptRanges", "unicode.CaseRanges"], apart := false, laid := [("unicode/utf8.acceptRanges", laid_unicode_utf8_acceptRanges), ("unicode.CaseRanges", laid_unicode_CaseRanges), ("unicode/utf8.first", laid_unicode_utf8_first)] }
def FnEachStopsAtFirstFalseSaid : Prop := fnEachStopsAtFirstFalseRow.holds Tryd.pinned (OpenSpec.ofChange fnEachStopsAtFirstFalseSpec)

/-- ITS FALSE NEIGHBOUR: 'it returns false'. Refute it at one input. -/
def fnEachStopsAtFirstFalseWrong : ChangeSpec := { name := "fnEachStopsAtFirstFalse", fn := fun _ => fun
  | [d1, d2, d3] => { results := [.lit (.bool false)], args := [d1, d2, d3] }
  | _ => none }
def FnEachStopsAtFirstFalseWrongFalsely : Prop := fnEachStopsAtFirstFalseRow.holds Tryd.pinned (OpenSpec.ofChange fnEachStopsAtFirstFalseWrong)

/-- 'n010_50.FnEachYieldsDistinctNamesInKeyOrderWithLastValues': WHATEVER THE INPUT: true; the input reads as it did. -/
def fnEachYieldsDistinctNamesInKeyOrderWithLastValuesSpec : ChangeSpec := { name := "fnEachYieldsDistinctNamesInKeyOrderWithLastValues", fn := fun _ => fun
  | [d] => { results := [.lit (.bool true)], args := [d] }
  | _ => none }
def fnEachYieldsDistinctNamesInKeyOrderWithLastValuesRow : OpenClaim := { program := "ythihppocokkoiaadoor", sum := "0cef833331e66429db203a471a1c0b96a835aac17d84efaa1e9bb8699d05083c", func := "mvdan.cc/sh/v3/n010_50.FnEachYieldsDistinctNamesInKeyOrderWithLastValues", spec := "fnEachYieldsDistinctNamesInKeyOrderWithLastValues", inPlace := ["internal/bytealg.IndexByteString", "internal/abi.NoEscape", "internal/bytealg.MakeNoZero", "internal/bytealg.abigen_runtime_cmpstring"], unfollowed := true, recurses := true, named := ["unicode/utf8.first", "unicode/utf8.acceptRanges", "unicode.CaseRanges"], apart := false, laid := [("unicode/utf8.acceptRanges", laid_unicode_utf8_acceptRanges), ("unicode.CaseRanges", laid_unicode_CaseRanges), ("unicode/utf8.first", laid_unicode_utf8_first)] }
def FnEachYieldsDistinctNamesInKeyOrderWithLastValuesSaid : Prop := fnEachYieldsDistinctNamesInKeyOrderWithLastValuesRow.holds Tryd.pinned (OpenSpec.ofChange fnEachYieldsDistinctNamesInKeyOrderWithLastValuesSpec)

/-- ITS FALSE NEIGHBOUR: 'it returns false'. Refute it at one input. -/
def fnEachYieldsDistinctNamesInKeyOrderWithLastValuesWrong : ChangeSpec := { name := "fnEachYieldsDistinctNamesInKeyOrderWithLastValues", fn := fun _ => fun
  | [d] => { results := [.lit (.bool false)], args := [d] }
  | _ => none }
def FnEachYieldsDistinctNamesInKeyOrderWithLastValuesWrongFalsely : Prop := fnEachYieldsDistinctNamesInKeyOrderWithLastValuesRow.holds Tryd.pinned (OpenSpec.ofChange fnEachYieldsDistinctNamesInKeyOrderWithLastValuesWrong)

/- THE SECOND FORM. 'bulk': how many values and letters a reading holds, each counted each time it is reached (what is shared counts as often as it is met; a slice's spare places count too). A statement '..UptoSaid' is the law's where the arguments, and the package variables that the reading takes, are together of bulk at most 1048576: NARROWER than '..Said'. Prove '..Said' where nothing that the law and all that it calls make is longer than what came in: it says more and counts as full. Else prove '..UptoSaid'. A law counts once. -/
mutual
def uptoBulk {H : Type} : DataW H → Nat
  | .lit (.string bytes) => bytes.length + 1
  | .lit _ => 1
  | .nil => 1
  | .ptr d => uptoBulk d + 1
  | .slice elems spare => uptoBulkAll elems + uptoBulkAll spare + 1
  | .agg parts => uptoBulkAll parts + 1
  | .iface _ d => uptoBulk d + 1
  | .map entries => uptoBulkEntries entries + 1
  | .held _ => 1
def uptoBulkAll {H : Type} : List (DataW H) → Nat
  | [] => 0
  | d :: r => uptoBulk d + uptoBulkAll r
def uptoBulkEntries {H : Type} : List (Lit × DataW H) → Nat
  | [] => 0
  | x :: r => uptoBulkEntry x + uptoBulkEntries r
def uptoBulkEntry {H : Type} : Lit × DataW H → Nat
  | (.string bytes, d) => bytes.length + uptoBulk d + 1
  | (_, d) => uptoBulk d + 1
 end
def uptoSmall : (H : Type) → List (DataW H) → Bool := fun _ ds => decide (uptoBulkAll ds ≤ 1048576)
def OpenSpec.upto (s : _root_.Go.ChangeSpec) : _root_.Go.OpenSpec := { _root_.Go.OpenSpec.ofChange s with cond := some uptoSmall }

/-- 'n010_40.FnResolveNameRefFollowsOneStep', WHERE WHAT IT READS IS OF BULK AT MOST 1048576: true; the input reads as it did. -/
def fnResolveNameRefFollowsOneStepUptoRow : OpenClaim := { program := "ythihppocokkoiaadoor", sum := "0cef833331e66429db203a471a1c0b96a835aac17d84efaa1e9bb8699d05083c", func := "mvdan.cc/sh/v3/n010_40.FnResolveNameRefFollowsOneStep", spec := "fnResolveNameRefFollowsOneStep", inPlace := ["internal/bytealg.IndexByteString", "internal/abi.NoEscape", "internal/bytealg.MakeNoZero", "internal/bytealg.abigen_runtime_cmpstring"], unfollowed := true, recurses := true, named := ["unicode/utf8.first", "unicode/utf8.acceptRanges", "unicode.CaseRanges"], apart := false, laid := [("unicode/utf8.acceptRanges", laid_unicode_utf8_acceptRanges), ("unicode.CaseRanges", laid_unicode_CaseRanges), ("unicode/utf8.first", laid_unicode_utf8_first)], narrowed := true }
def FnResolveNameRefFollowsOneStepUptoSaid : Prop := fnResolveNameRefFollowsOneStepUptoRow.holds Tryd.pinned (OpenSpec.upto fnResolveNameRefFollowsOneStepSpec)

/-- 'n010_90.FnEnvGetMatchesLastPair', WHERE WHAT IT READS IS OF BULK AT MOST 1048576: true; the input reads as it did. -/
def fnEnvGetMatchesLastPairUptoRow : OpenClaim := { program := "ythihppocokkoiaadoor", sum := "0cef833331e66429db203a471a1c0b96a835aac17d84efaa1e9bb8699d05083c", func := "mvdan.cc/sh/v3/n010_90.FnEnvGetMatchesLastPair", spec := "fnEnvGetMatchesLastPair", inPlace := ["internal/bytealg.IndexByteString", "internal/abi.NoEscape", "internal/bytealg.MakeNoZero", "internal/bytealg.abigen_runtime_cmpstring"], unfollowed := true, recurses := true, named := ["unicode/utf8.first", "unicode/utf8.acceptRanges", "unicode.CaseRanges"], apart := false, laid := [("unicode/utf8.acceptRanges", laid_unicode_utf8_acceptRanges), ("unicode.CaseRanges", laid_unicode_CaseRanges), ("unicode/utf8.first", laid_unicode_utf8_first)], narrowed := true }
def FnEnvGetMatchesLastPairUptoSaid : Prop := fnEnvGetMatchesLastPairUptoRow.holds Tryd.pinned (OpenSpec.upto fnEnvGetMatchesLastPairSpec)

/-- 'n010_40.FnResolveNonNameRefIsIdentity', WHERE WHAT IT READS IS OF BULK AT MOST 1048576: true; the input reads as it did. -/
def fnResolveNonNameRefIsIdentityUptoRow : OpenClaim := { program := "ythihppocokkoiaadoor", sum := "0cef833331e66429db203a471a1c0b96a835aac17d84efaa1e9bb8699d05083c", func := "mvdan.cc/sh/v3/n010_40.FnResolveNonNameRefIsIdentity", spec := "fnResolveNonNameRefIsIdentity", inPlace := ["internal/bytealg.IndexByteString", "internal/abi.NoEscape", "internal/bytealg.MakeNoZero", "internal/bytealg.abigen_runtime_cmpstring"], unfollowed := true, recurses := true, named := ["unicode/utf8.first", "unicode/utf8.acceptRanges", "unicode.CaseRanges"], apart := false, laid := [("unicode/utf8.acceptRanges", laid_unicode_utf8_acceptRanges), ("unicode.CaseRanges", laid_unicode_CaseRanges), ("unicode/utf8.first", laid_unicode_utf8_first)], narrowed := true }
def FnResolveNonNameRefIsIdentityUptoSaid : Prop := fnResolveNonNameRefIsIdentityUptoRow.holds Tryd.pinned (OpenSpec.upto fnResolveNonNameRefIsIdentitySpec)

/-- 'n010_48.FnListEnvironCaseInsensitiveGetFoldsASCII', WHERE WHAT IT READS IS OF BULK AT MOST 1048576: true; the input reads as it did. -/
def fnListEnvironCaseInsensitiveGetFoldsASCIIUptoRow : OpenClaim := { program := "ythihppocokkoiaadoor", sum := "0cef833331e66429db203a471a1c0b96a835aac17d84efaa1e9bb8699d05083c", func := "mvdan.cc/sh/v3/n010_48.FnListEnvironCaseInsensitiveGetFoldsASCII", spec := "fnListEnvironCaseInsensitiveGetFoldsASCII", inPlace := ["internal/bytealg.IndexByteString", "internal/abi.NoEscape", "internal/bytealg.MakeNoZero", "internal/bytealg.abigen_runtime_cmpstring"], unfollowed := true, recurses := true, named := ["unicode/utf8.first", "unicode/utf8.acceptRanges", "unicode.CaseRanges"], apart := false, laid := [("unicode/utf8.acceptRanges", laid_unicode_utf8_acceptRanges), ("unicode.CaseRanges", laid_unicode_CaseRanges), ("unicode/utf8.first", laid_unicode_utf8_first)], narrowed := true }
def FnListEnvironCaseInsensitiveGetFoldsASCIIUptoSaid : Prop := fnListEnvironCaseInsensitiveGetFoldsASCIIUptoRow.holds Tryd.pinned (OpenSpec.upto fnListEnvironCaseInsensitiveGetFoldsASCIISpec)

/-- 'n010_48.FnListEnvironCaseSensitiveGetIsLastPairOfName', WHERE WHAT IT READS IS OF BULK AT MOST 1048576: true; the input reads as it did. -/
def fnListEnvironCaseSensitiveGetIsLastPairOfNameUptoRow : OpenClaim := { program := "ythihppocokkoiaadoor", sum := "0cef833331e66429db203a471a1c0b96a835aac17d84efaa1e9bb8699d05083c", func := "mvdan.cc/sh/v3/n010_48.FnListEnvironCaseSensitiveGetIsLastPairOfName", spec := "fnListEnvironCaseSensitiveGetIsLastPairOfName", inPlace := ["internal/bytealg.IndexByteString", "internal/abi.NoEscape", "internal/bytealg.MakeNoZero", "internal/bytealg.abigen_runtime_cmpstring"], unfollowed := true, recurses := true, named := ["unicode/utf8.first", "unicode/utf8.acceptRanges", "unicode.CaseRanges"], apart := false, laid := [("unicode/utf8.acceptRanges", laid_unicode_utf8_acceptRanges), ("unicode.CaseRanges", laid_unicode_CaseRanges), ("unicode/utf8.first", laid_unicode_utf8_first)], narrowed := true }
def FnListEnvironCaseSensitiveGetIsLastPairOfNameUptoSaid : Prop := fnListEnvironCaseSensitiveGetIsLastPairOfNameUptoRow.holds Tryd.pinned (OpenSpec.upto fnListEnvironCaseSensitiveGetIsLastPairOfNameSpec)

/-- 'n010_48.FnListEnvironGetIsLastPairOfName', WHERE WHAT IT READS IS OF BULK AT MOST 1048576: true; the input reads as it did. -/
def fnListEnvironGetIsLastPairOfNameUptoRow : OpenClaim := { program := "ythihppocokkoiaadoor", sum := "0cef833331e66429db203a471a1c0b96a835aac17d84efaa1e9bb8699d05083c", func := "mvdan.cc/sh/v3/n010_48.FnListEnvironGetIsLastPairOfName", spec := "fnListEnvironGetIsLastPairOfName", inPlace := ["internal/bytealg.IndexByteString", "internal/abi.NoEscape", "internal/bytealg.MakeNoZero", "internal/bytealg.abigen_runtime_cmpstring"], unfollowed := true, recurses := true, named := ["unicode/utf8.first", "unicode/utf8.acceptRanges", "unicode.CaseRanges"], apart := false, laid := [("unicode/utf8.acceptRanges", laid_unicode_utf8_acceptRanges), ("unicode.CaseRanges", laid_unicode_CaseRanges), ("unicode/utf8.first", laid_unicode_utf8_first)], narrowed := true }
def FnListEnvironGetIsLastPairOfNameUptoSaid : Prop := fnListEnvironGetIsLastPairOfNameUptoRow.holds Tryd.pinned (OpenSpec.upto fnListEnvironGetIsLastPairOfNameSpec)

/-- 'n010_90.FnEnvGetAfterAppend', WHERE WHAT IT READS IS OF BULK AT MOST 1048576: true; the input reads as it did. -/
def fnEnvGetAfterAppendUptoRow : OpenClaim := { program := "ythihppocokkoiaadoor", sum := "0cef833331e66429db203a471a1c0b96a835aac17d84efaa1e9bb8699d05083c", func := "mvdan.cc/sh/v3/n010_90.FnEnvGetAfterAppend", spec := "fnEnvGetAfterAppend", inPlace := ["internal/bytealg.IndexByteString", "internal/abi.NoEscape", "internal/bytealg.MakeNoZero", "internal/bytealg.abigen_runtime_cmpstring"], unfollowed := true, recurses := true, named := ["unicode/utf8.first", "unicode/utf8.acceptRanges", "unicode.CaseRanges"], apart := false, laid := [("unicode/utf8.acceptRanges", laid_unicode_utf8_acceptRanges), ("unicode.CaseRanges", laid_unicode_CaseRanges), ("unicode/utf8.first", laid_unicode_utf8_first)], narrowed := true }
def FnEnvGetAfterAppendUptoSaid : Prop := fnEnvGetAfterAppendUptoRow.holds Tryd.pinned (OpenSpec.upto fnEnvGetAfterAppendSpec)

/-- 'n010_40.FnFuncEnvironAgreesWithListEnviron', WHERE WHAT IT READS IS OF BULK AT MOST 1048576: true; the input reads as it did. -/
def fnFuncEnvironAgreesWithListEnvironUptoRow : OpenClaim := { program := "ythihppocokkoiaadoor", sum := "0cef833331e66429db203a471a1c0b96a835aac17d84efaa1e9bb8699d05083c", func := "mvdan.cc/sh/v3/n010_40.FnFuncEnvironAgreesWithListEnviron", spec := "fnFuncEnvironAgreesWithListEnviron", inPlace := ["internal/bytealg.IndexByteString", "internal/abi.NoEscape", "internal/bytealg.MakeNoZero", "internal/bytealg.abigen_runtime_cmpstring"], unfollowed := true, recurses := true, named := ["unicode/utf8.first", "unicode/utf8.acceptRanges", "unicode.CaseRanges"], apart := false, laid := [("unicode/utf8.acceptRanges", laid_unicode_utf8_acceptRanges), ("unicode.CaseRanges", laid_unicode_CaseRanges), ("unicode/utf8.first", laid_unicode_utf8_first)], narrowed := true }
def FnFuncEnvironAgreesWithListEnvironUptoSaid : Prop := fnFuncEnvironAgreesWithListEnvironUptoRow.holds Tryd.pinned (OpenSpec.upto fnFuncEnvironAgreesWithListEnvironSpec)

/-- 'n010_48.FnListEnvironLaterPairOverridesOnlyItsName', WHERE WHAT IT READS IS OF BULK AT MOST 1048576: true; the input reads as it did. -/
def fnListEnvironLaterPairOverridesOnlyItsNameUptoRow : OpenClaim := { program := "ythihppocokkoiaadoor", sum := "0cef833331e66429db203a471a1c0b96a835aac17d84efaa1e9bb8699d05083c", func := "mvdan.cc/sh/v3/n010_48.FnListEnvironLaterPairOverridesOnlyItsName", spec := "fnListEnvironLaterPairOverridesOnlyItsName", inPlace := ["internal/bytealg.IndexByteString", "internal/abi.NoEscape", "internal/bytealg.MakeNoZero", "internal/bytealg.abigen_runtime_cmpstring"], unfollowed := true, recurses := true, named := ["unicode/utf8.first", "unicode/utf8.acceptRanges", "unicode.CaseRanges"], apart := false, laid := [("unicode/utf8.acceptRanges", laid_unicode_utf8_acceptRanges), ("unicode.CaseRanges", laid_unicode_CaseRanges), ("unicode/utf8.first", laid_unicode_utf8_first)], narrowed := true }
def FnListEnvironLaterPairOverridesOnlyItsNameUptoSaid : Prop := fnListEnvironLaterPairOverridesOnlyItsNameUptoRow.holds Tryd.pinned (OpenSpec.upto fnListEnvironLaterPairOverridesOnlyItsNameSpec)

/-- 'n010_50.FnGetReturnsLastPairForName', WHERE WHAT IT READS IS OF BULK AT MOST 1048576: true; the input reads as it did. -/
def fnGetReturnsLastPairForNameUptoRow : OpenClaim := { program := "ythihppocokkoiaadoor", sum := "0cef833331e66429db203a471a1c0b96a835aac17d84efaa1e9bb8699d05083c", func := "mvdan.cc/sh/v3/n010_50.FnGetReturnsLastPairForName", spec := "fnGetReturnsLastPairForName", inPlace := ["internal/bytealg.IndexByteString", "internal/abi.NoEscape", "internal/bytealg.MakeNoZero", "internal/bytealg.abigen_runtime_cmpstring"], unfollowed := true, recurses := true, named := ["unicode/utf8.first", "unicode/utf8.acceptRanges", "unicode.CaseRanges"], apart := false, laid := [("unicode/utf8.acceptRanges", laid_unicode_utf8_acceptRanges), ("unicode.CaseRanges", laid_unicode_CaseRanges), ("unicode/utf8.first", laid_unicode_utf8_first)], narrowed := true }
def FnGetReturnsLastPairForNameUptoSaid : Prop := fnGetReturnsLastPairForNameUptoRow.holds Tryd.pinned (OpenSpec.upto fnGetReturnsLastPairForNameSpec)

/-- 'n010_50.FnEachStopsAtFirstFalse', WHERE WHAT IT READS IS OF BULK AT MOST 1048576: true; the input reads as it did. -/
def fnEachStopsAtFirstFalseUptoRow : OpenClaim := { program := "ythihppocokkoiaadoor", sum := "0cef833331e66429db203a471a1c0b96a835aac17d84efaa1e9bb8699d05083c", func := "mvdan.cc/sh/v3/n010_50.FnEachStopsAtFirstFalse", spec := "fnEachStopsAtFirstFalse", inPlace := ["internal/bytealg.IndexByteString", "internal/abi.NoEscape", "internal/bytealg.MakeNoZero", "internal/bytealg.abigen_runtime_cmpstring"], unfollowed := true, recurses := true, named := ["unicode/utf8.first", "unicode/utf8.acceptRanges", "unicode.CaseRanges"], apart := false, laid := [("unicode/utf8.acceptRanges", laid_unicode_utf8_acceptRanges), ("unicode.CaseRanges", laid_unicode_CaseRanges), ("unicode/utf8.first", laid_unicode_utf8_first)], narrowed := true }
def FnEachStopsAtFirstFalseUptoSaid : Prop := fnEachStopsAtFirstFalseUptoRow.holds Tryd.pinned (OpenSpec.upto fnEachStopsAtFirstFalseSpec)

/-- 'n010_50.FnEachYieldsDistinctNamesInKeyOrderWithLastValues', WHERE WHAT IT READS IS OF BULK AT MOST 1048576: true; the input reads as it did. -/
def fnEachYieldsDistinctNamesInKeyOrderWithLastValuesUptoRow : OpenClaim := { program := "ythihppocokkoiaadoor", sum := "0cef833331e66429db203a471a1c0b96a835aac17d84efaa1e9bb8699d05083c", func := "mvdan.cc/sh/v3/n010_50.FnEachYieldsDistinctNamesInKeyOrderWithLastValues", spec := "fnEachYieldsDistinctNamesInKeyOrderWithLastValues", inPlace := ["internal/bytealg.IndexByteString", "internal/abi.NoEscape", "internal/bytealg.MakeNoZero", "internal/bytealg.abigen_runtime_cmpstring"], unfollowed := true, recurses := true, named := ["unicode/utf8.first", "unicode/utf8.acceptRanges", "unicode.CaseRanges"], apart := false, laid := [("unicode/utf8.acceptRanges", laid_unicode_utf8_acceptRanges), ("unicode.CaseRanges", laid_unicode_CaseRanges), ("unicode/utf8.first", laid_unicode_utf8_first)], narrowed := true }
def FnEachYieldsDistinctNamesInKeyOrderWithLastValuesUptoSaid : Prop := fnEachYieldsDistinctNamesInKeyOrderWithLastValuesUptoRow.holds Tryd.pinned (OpenSpec.upto fnEachYieldsDistinctNamesInKeyOrderWithLastValuesSpec)

end Rows
end Go.Proofs.YthihppocokkoiaaDoor
