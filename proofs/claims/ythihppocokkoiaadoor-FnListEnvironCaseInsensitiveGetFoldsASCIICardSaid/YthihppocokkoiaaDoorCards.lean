/-
  DERIVED. GIVEN WITH THE SEED: THE CARDS: each row of YthihppocokkoiaaDoorRows.lean that lists a variable, with what it lists TIED to the program's text (the seventh form; the later family's looks); each row that meets fmt, with fmt's text TOLD by the authors' own Lean function (tested against real Go, not proved from fmt's source: count such statements apart). THE CARD IS WHAT COUNTS. Prove the row's statement (the work); the ties are given (YthihppocokkoiaaDoorTie.lean); close each card by the builder's one call (the guide's Derived/Test/ToyasCard.lean, 'card_holds'). Laid BY PROGRAM, IN A SANDBOX (cutbox-door.mjs). By AI agents, Wed Nov 11 2026. No macro, syntax, notation, axiom, sorry.
-/
import Derived.Test.YthihppocokkoiaaDoorRows
import GoSem.ClaimSeven
namespace Go.Proofs.YthihppocokkoiaaDoor
namespace Rows

/-- THE TIED CARD OF 'n010_40.FnResolveNameRefFollowsOneStep'. -/
def fnResolveNameRefFollowsOneStepCard : Claim7 := { stood := { row := fnResolveNameRefFollowsOneStepRow, standIns := [], harness := (true, "ee25640a3dc0fcee5120d1279d7327be0fc51416bdba84cf9db9129713781560"), looks := false }, kinds := [], alts := [], laidByText := true, laidKinds := [.data, .pinned, .pinned], laidTests := true, laidLooks := .later }
def FnResolveNameRefFollowsOneStepCardSaid : Prop := Claim7.holds Tryd.pinned (.plain (OpenSpec.ofChange fnResolveNameRefFollowsOneStepSpec)) fnResolveNameRefFollowsOneStepCard

/-- THE TIED CARD OF 'n010_90.FnEnvGetMatchesLastPair'. -/
def fnEnvGetMatchesLastPairCard : Claim7 := { stood := { row := fnEnvGetMatchesLastPairRow, standIns := [], harness := (true, "ee25640a3dc0fcee5120d1279d7327be0fc51416bdba84cf9db9129713781560"), looks := false }, kinds := [], alts := [], laidByText := true, laidKinds := [.data, .pinned, .pinned], laidTests := true, laidLooks := .later }
def FnEnvGetMatchesLastPairCardSaid : Prop := Claim7.holds Tryd.pinned (.plain (OpenSpec.ofChange fnEnvGetMatchesLastPairSpec)) fnEnvGetMatchesLastPairCard

/-- THE TIED CARD OF 'n010_40.FnResolveNonNameRefIsIdentity'. -/
def fnResolveNonNameRefIsIdentityCard : Claim7 := { stood := { row := fnResolveNonNameRefIsIdentityRow, standIns := [], harness := (true, "ee25640a3dc0fcee5120d1279d7327be0fc51416bdba84cf9db9129713781560"), looks := false }, kinds := [], alts := [], laidByText := true, laidKinds := [.data, .pinned, .pinned], laidTests := true, laidLooks := .later }
def FnResolveNonNameRefIsIdentityCardSaid : Prop := Claim7.holds Tryd.pinned (.plain (OpenSpec.ofChange fnResolveNonNameRefIsIdentitySpec)) fnResolveNonNameRefIsIdentityCard

/-- THE TIED CARD OF 'n010_48.FnListEnvironCaseInsensitiveGetFoldsASCII'. -/
def fnListEnvironCaseInsensitiveGetFoldsASCIICard : Claim7 := { stood := { row := fnListEnvironCaseInsensitiveGetFoldsASCIIRow, standIns := [], harness := (true, "ee25640a3dc0fcee5120d1279d7327be0fc51416bdba84cf9db9129713781560"), looks := false }, kinds := [], alts := [], laidByText := true, laidKinds := [.data, .pinned, .pinned], laidTests := true, laidLooks := .later }
def FnListEnvironCaseInsensitiveGetFoldsASCIICardSaid : Prop := Claim7.holds Tryd.pinned (.plain (OpenSpec.ofChange fnListEnvironCaseInsensitiveGetFoldsASCIISpec)) fnListEnvironCaseInsensitiveGetFoldsASCIICard

/-- THE TIED CARD OF 'n010_48.FnListEnvironCaseSensitiveGetIsLastPairOfName'. -/
def fnListEnvironCaseSensitiveGetIsLastPairOfNameCard : Claim7 := { stood := { row := fnListEnvironCaseSensitiveGetIsLastPairOfNameRow, standIns := [], harness := (true, "ee25640a3dc0fcee5120d1279d7327be0fc51416bdba84cf9db9129713781560"), looks := false }, kinds := [], alts := [], laidByText := true, laidKinds := [.data, .pinned, .pinned], laidTests := true, laidLooks := .later }
def FnListEnvironCaseSensitiveGetIsLastPairOfNameCardSaid : Prop := Claim7.holds Tryd.pinned (.plain (OpenSpec.ofChange fnListEnvironCaseSensitiveGetIsLastPairOfNameSpec)) fnListEnvironCaseSensitiveGetIsLastPairOfNameCard

/-- THE TIED CARD OF 'n010_48.FnListEnvironGetIsLastPairOfName'. -/
def fnListEnvironGetIsLastPairOfNameCard : Claim7 := { stood := { row := fnListEnvironGetIsLastPairOfNameRow, standIns := [], harness := (true, "ee25640a3dc0fcee5120d1279d7327be0fc51416bdba84cf9db9129713781560"), looks := false }, kinds := [], alts := [], laidByText := true, laidKinds := [.data, .pinned, .pinned], laidTests := true, laidLooks := .later }
def FnListEnvironGetIsLastPairOfNameCardSaid : Prop := Claim7.holds Tryd.pinned (.plain (OpenSpec.ofChange fnListEnvironGetIsLastPairOfNameSpec)) fnListEnvironGetIsLastPairOfNameCard

/-- THE TIED CARD OF 'n010_90.FnEnvGetAfterAppend'. -/
def fnEnvGetAfterAppendCard : Claim7 := { stood := { row := fnEnvGetAfterAppendRow, standIns := [], harness := (true, "ee25640a3dc0fcee5120d1279d7327be0fc51416bdba84cf9db9129713781560"), looks := false }, kinds := [], alts := [], laidByText := true, laidKinds := [.data, .pinned, .pinned], laidTests := true, laidLooks := .later }
def FnEnvGetAfterAppendCardSaid : Prop := Claim7.holds Tryd.pinned (.plain (OpenSpec.ofChange fnEnvGetAfterAppendSpec)) fnEnvGetAfterAppendCard

/-- THE TIED CARD OF 'n010_40.FnFuncEnvironAgreesWithListEnviron'. -/
def fnFuncEnvironAgreesWithListEnvironCard : Claim7 := { stood := { row := fnFuncEnvironAgreesWithListEnvironRow, standIns := [], harness := (true, "ee25640a3dc0fcee5120d1279d7327be0fc51416bdba84cf9db9129713781560"), looks := false }, kinds := [], alts := [], laidByText := true, laidKinds := [.data, .pinned, .pinned], laidTests := true, laidLooks := .later }
def FnFuncEnvironAgreesWithListEnvironCardSaid : Prop := Claim7.holds Tryd.pinned (.plain (OpenSpec.ofChange fnFuncEnvironAgreesWithListEnvironSpec)) fnFuncEnvironAgreesWithListEnvironCard

/-- THE TIED CARD OF 'n010_48.FnListEnvironLaterPairOverridesOnlyItsName'. -/
def fnListEnvironLaterPairOverridesOnlyItsNameCard : Claim7 := { stood := { row := fnListEnvironLaterPairOverridesOnlyItsNameRow, standIns := [], harness := (true, "ee25640a3dc0fcee5120d1279d7327be0fc51416bdba84cf9db9129713781560"), looks := false }, kinds := [], alts := [], laidByText := true, laidKinds := [.data, .pinned, .pinned], laidTests := true, laidLooks := .later }
def FnListEnvironLaterPairOverridesOnlyItsNameCardSaid : Prop := Claim7.holds Tryd.pinned (.plain (OpenSpec.ofChange fnListEnvironLaterPairOverridesOnlyItsNameSpec)) fnListEnvironLaterPairOverridesOnlyItsNameCard

/-- THE TIED CARD OF 'n010_50.FnGetReturnsLastPairForName'. -/
def fnGetReturnsLastPairForNameCard : Claim7 := { stood := { row := fnGetReturnsLastPairForNameRow, standIns := [], harness := (true, "ee25640a3dc0fcee5120d1279d7327be0fc51416bdba84cf9db9129713781560"), looks := false }, kinds := [], alts := [], laidByText := true, laidKinds := [.data, .pinned, .pinned], laidTests := true, laidLooks := .later }
def FnGetReturnsLastPairForNameCardSaid : Prop := Claim7.holds Tryd.pinned (.plain (OpenSpec.ofChange fnGetReturnsLastPairForNameSpec)) fnGetReturnsLastPairForNameCard

/-- THE TIED CARD OF 'n010_50.FnEachStopsAtFirstFalse'. -/
def fnEachStopsAtFirstFalseCard : Claim7 := { stood := { row := fnEachStopsAtFirstFalseRow, standIns := [], harness := (true, "ee25640a3dc0fcee5120d1279d7327be0fc51416bdba84cf9db9129713781560"), looks := false }, kinds := [], alts := [], laidByText := true, laidKinds := [.data, .pinned, .pinned], laidTests := true, laidLooks := .later }
def FnEachStopsAtFirstFalseCardSaid : Prop := Claim7.holds Tryd.pinned (.plain (OpenSpec.ofChange fnEachStopsAtFirstFalseSpec)) fnEachStopsAtFirstFalseCard

/-- THE TIED CARD OF 'n010_50.FnEachYieldsDistinctNamesInKeyOrderWithLastValues'. -/
def fnEachYieldsDistinctNamesInKeyOrderWithLastValuesCard : Claim7 := { stood := { row := fnEachYieldsDistinctNamesInKeyOrderWithLastValuesRow, standIns := [], harness := (true, "ee25640a3dc0fcee5120d1279d7327be0fc51416bdba84cf9db9129713781560"), looks := false }, kinds := [], alts := [], laidByText := true, laidKinds := [.data, .pinned, .pinned], laidTests := true, laidLooks := .later }
def FnEachYieldsDistinctNamesInKeyOrderWithLastValuesCardSaid : Prop := Claim7.holds Tryd.pinned (.plain (OpenSpec.ofChange fnEachYieldsDistinctNamesInKeyOrderWithLastValuesSpec)) fnEachYieldsDistinctNamesInKeyOrderWithLastValuesCard

/-- THE SECOND FORM's CARD OF 'n010_40.FnResolveNameRefFollowsOneStep'. -/
def fnResolveNameRefFollowsOneStepUptoCard : Claim7 := { stood := { row := fnResolveNameRefFollowsOneStepUptoRow, standIns := [], harness := (true, "ee25640a3dc0fcee5120d1279d7327be0fc51416bdba84cf9db9129713781560"), looks := false }, kinds := [], alts := [], laidByText := true, laidKinds := [.data, .pinned, .pinned], laidTests := true, laidLooks := .later }
def FnResolveNameRefFollowsOneStepUptoCardSaid : Prop := Claim7.holds Tryd.pinned (.plain (OpenSpec.upto fnResolveNameRefFollowsOneStepSpec)) fnResolveNameRefFollowsOneStepUptoCard

/-- THE SECOND FORM's CARD OF 'n010_90.FnEnvGetMatchesLastPair'. -/
def fnEnvGetMatchesLastPairUptoCard : Claim7 := { stood := { row := fnEnvGetMatchesLastPairUptoRow, standIns := [], harness := (true, "ee25640a3dc0fcee5120d1279d7327be0fc51416bdba84cf9db9129713781560"), looks := false }, kinds := [], alts := [], laidByText := true, laidKinds := [.data, .pinned, .pinned], laidTests := true, laidLooks := .later }
def FnEnvGetMatchesLastPairUptoCardSaid : Prop := Claim7.holds Tryd.pinned (.plain (OpenSpec.upto fnEnvGetMatchesLastPairSpec)) fnEnvGetMatchesLastPairUptoCard

/-- THE SECOND FORM's CARD OF 'n010_40.FnResolveNonNameRefIsIdentity'. -/
def fnResolveNonNameRefIsIdentityUptoCard : Claim7 := { stood := { row := fnResolveNonNameRefIsIdentityUptoRow, standIns := [], harness := (true, "ee25640a3dc0fcee5120d1279d7327be0fc51416bdba84cf9db9129713781560"), looks := false }, kinds := [], alts := [], laidByText := true, laidKinds := [.data, .pinned, .pinned], laidTests := true, laidLooks := .later }
def FnResolveNonNameRefIsIdentityUptoCardSaid : Prop := Claim7.holds Tryd.pinned (.plain (OpenSpec.upto fnResolveNonNameRefIsIdentitySpec)) fnResolveNonNameRefIsIdentityUptoCard

/-- THE SECOND FORM's CARD OF 'n010_48.FnListEnvironCaseInsensitiveGetFoldsASCII'. -/
def fnListEnvironCaseInsensitiveGetFoldsASCIIUptoCard : Claim7 := { stood := { row := fnListEnvironCaseInsensitiveGetFoldsASCIIUptoRow, standIns := [], harness := (true, "ee25640a3dc0fcee5120d1279d7327be0fc51416bdba84cf9db9129713781560"), looks := false }, kinds := [], alts := [], laidByText := true, laidKinds := [.data, .pinned, .pinned], laidTests := true, laidLooks := .later }
def FnListEnvironCaseInsensitiveGetFoldsASCIIUptoCardSaid : Prop := Claim7.holds Tryd.pinned (.plain (OpenSpec.upto fnListEnvironCaseInsensitiveGetFoldsASCIISpec)) fnListEnvironCaseInsensitiveGetFoldsASCIIUptoCard

/-- THE SECOND FORM's CARD OF 'n010_48.FnListEnvironCaseSensitiveGetIsLastPairOfName'. -/
def fnListEnvironCaseSensitiveGetIsLastPairOfNameUptoCard : Claim7 := { stood := { row := fnListEnvironCaseSensitiveGetIsLastPairOfNameUptoRow, standIns := [], harness := (true, "ee25640a3dc0fcee5120d1279d7327be0fc51416bdba84cf9db9129713781560"), looks := false }, kinds := [], alts := [], laidByText := true, laidKinds := [.data, .pinned, .pinned], laidTests := true, laidLooks := .later }
def FnListEnvironCaseSensitiveGetIsLastPairOfNameUptoCardSaid : Prop := Claim7.holds Tryd.pinned (.plain (OpenSpec.upto fnListEnvironCaseSensitiveGetIsLastPairOfNameSpec)) fnListEnvironCaseSensitiveGetIsLastPairOfNameUptoCard

/-- THE SECOND FORM's CARD OF 'n010_48.FnListEnvironGetIsLastPairOfName'. -/
def fnListEnvironGetIsLastPairOfNameUptoCard : Claim7 := { stood := { row := fnListEnvironGetIsLastPairOfNameUptoRow, standIns := [], harness := (true, "ee25640a3dc0fcee5120d1279d7327be0fc51416bdba84cf9db9129713781560"), looks := false }, kinds := [], alts := [], laidByText := true, laidKinds := [.data, .pinned, .pinned], laidTests := true, laidLooks := .later }
def FnListEnvironGetIsLastPairOfNameUptoCardSaid : Prop := Claim7.holds Tryd.pinned (.plain (OpenSpec.upto fnListEnvironGetIsLastPairOfNameSpec)) fnListEnvironGetIsLastPairOfNameUptoCard

/-- THE SECOND FORM's CARD OF 'n010_90.FnEnvGetAfterAppend'. -/
def fnEnvGetAfterAppendUptoCard : Claim7 := { stood := { row := fnEnvGetAfterAppendUptoRow, standIns := [], harness := (true, "ee25640a3dc0fcee5120d1279d7327be0fc51416bdba84cf9db9129713781560"), looks := false }, kinds := [], alts := [], laidByText := true, laidKinds := [.data, .pinned, .pinned], laidTests := true, laidLooks := .later }
def FnEnvGetAfterAppendUptoCardSaid : Prop := Claim7.holds Tryd.pinned (.plain (OpenSpec.upto fnEnvGetAfterAppendSpec)) fnEnvGetAfterAppendUptoCard

/-- THE SECOND FORM's CARD OF 'n010_40.FnFuncEnvironAgreesWithListEnviron'. -/
def fnFuncEnvironAgreesWithListEnvironUptoCard : Claim7 := { stood := { row := fnFuncEnvironAgreesWithListEnvironUptoRow, standIns := [], harness := (true, "ee25640a3dc0fcee5120d1279d7327be0fc51416bdba84cf9db9129713781560"), looks := false }, kinds := [], alts := [], laidByText := true, laidKinds := [.data, .pinned, .pinned], laidTests := true, laidLooks := .later }
def FnFuncEnvironAgreesWithListEnvironUptoCardSaid : Prop := Claim7.holds Tryd.pinned (.plain (OpenSpec.upto fnFuncEnvironAgreesWithListEnvironSpec)) fnFuncEnvironAgreesWithListEnvironUptoCard

/-- THE SECOND FORM's CARD OF 'n010_48.FnListEnvironLaterPairOverridesOnlyItsName'. -/
def fnListEnvironLaterPairOverridesOnlyItsNameUptoCard : Claim7 := { stood := { row := fnListEnvironLaterPairOverridesOnlyItsNameUptoRow, standIns := [], harness := (true, "ee25640a3dc0fcee5120d1279d7327be0fc51416bdba84cf9db9129713781560"), looks := false }, kinds := [], alts := [], laidByText := true, laidKinds := [.data, .pinned, .pinned], laidTests := true, laidLooks := .later }
def FnListEnvironLaterPairOverridesOnlyItsNameUptoCardSaid : Prop := Claim7.holds Tryd.pinned (.plain (OpenSpec.upto fnListEnvironLaterPairOverridesOnlyItsNameSpec)) fnListEnvironLaterPairOverridesOnlyItsNameUptoCard

/-- THE SECOND FORM's CARD OF 'n010_50.FnGetReturnsLastPairForName'. -/
def fnGetReturnsLastPairForNameUptoCard : Claim7 := { stood := { row := fnGetReturnsLastPairForNameUptoRow, standIns := [], harness := (true, "ee25640a3dc0fcee5120d1279d7327be0fc51416bdba84cf9db9129713781560"), looks := false }, kinds := [], alts := [], laidByText := true, laidKinds := [.data, .pinned, .pinned], laidTests := true, laidLooks := .later }
def FnGetReturnsLastPairForNameUptoCardSaid : Prop := Claim7.holds Tryd.pinned (.plain (OpenSpec.upto fnGetReturnsLastPairForNameSpec)) fnGetReturnsLastPairForNameUptoCard

/-- THE SECOND FORM's CARD OF 'n010_50.FnEachStopsAtFirstFalse'. -/
def fnEachStopsAtFirstFalseUptoCard : Claim7 := { stood := { row := fnEachStopsAtFirstFalseUptoRow, standIns := [], harness := (true, "ee25640a3dc0fcee5120d1279d7327be0fc51416bdba84cf9db9129713781560"), looks := false }, kinds := [], alts := [], laidByText := true, laidKinds := [.data, .pinned, .pinned], laidTests := true, laidLooks := .later }
def FnEachStopsAtFirstFalseUptoCardSaid : Prop := Claim7.holds Tryd.pinned (.plain (OpenSpec.upto fnEachStopsAtFirstFalseSpec)) fnEachStopsAtFirstFalseUptoCard

/-- THE SECOND FORM's CARD OF 'n010_50.FnEachYieldsDistinctNamesInKeyOrderWithLastValues'. -/
def fnEachYieldsDistinctNamesInKeyOrderWithLastValuesUptoCard : Claim7 := { stood := { row := fnEachYieldsDistinctNamesInKeyOrderWithLastValuesUptoRow, standIns := [], harness := (true, "ee25640a3dc0fcee5120d1279d7327be0fc51416bdba84cf9db9129713781560"), looks := false }, kinds := [], alts := [], laidByText := true, laidKinds := [.data, .pinned, .pinned], laidTests := true, laidLooks := .later }
def FnEachYieldsDistinctNamesInKeyOrderWithLastValuesUptoCardSaid : Prop := Claim7.holds Tryd.pinned (.plain (OpenSpec.upto fnEachYieldsDistinctNamesInKeyOrderWithLastValuesSpec)) fnEachYieldsDistinctNamesInKeyOrderWithLastValuesUptoCard
end Rows
end Go.Proofs.YthihppocokkoiaaDoor
