/-
  DERIVED. GIVEN WITH THE SEED: THE CARDS: each row of YtopaaaacbegmnaaFmtRows.lean that lists a variable, with what it lists TIED to the program's text (the seventh form; the later family's looks); each row that meets fmt, with fmt's text TOLD by the authors' own Lean function (tested against real Go, not proved from fmt's source: count such statements apart). THE CARD IS WHAT COUNTS. Prove the row's statement (the work); the ties are given (YtopaaaacbegmnaaFmtTie.lean); close each card by the builder's one call (the guide's Derived/Test/ToyasCard.lean, 'card_holds'). Laid BY PROGRAM, IN A SANDBOX (cutbox-door.mjs). By AI agents, Wed Nov 11 2026. No macro, syntax, notation, axiom, sorry.
-/
import Derived.Test.YtopaaaacbegmnaaFmtRows
import GoSem.ClaimSeven
namespace Go.Proofs.YtopaaaacbegmnaaFmt
namespace Rows

/-- THE TOLD CARD OF 'n010_127.FnCharClassCaseTable'. -/
def fnCharClassCaseTableCard : Claim7 := { stood := { row := fnCharClassCaseTableRow, standIns := [], harness := (true, "dffd32a670441b449f5976e16c3964e5b6fc928868831aba1743c0f223501bc0"), looks := false }, told := true, goes := false }
def FnCharClassCaseTableToldSaid : Prop := Claim7.holds Tryf.pinned (.plain (OpenSpec.ofChange fnCharClassCaseTableSpec)) fnCharClassCaseTableCard
/-- ITS FALSE NEIGHBOUR. Refute it at one input. -/
def FnCharClassCaseTableToldWrongFalsely : Prop := Claim7.holds Tryf.pinned (.plain (OpenSpec.ofChange fnCharClassCaseTableWrong)) fnCharClassCaseTableCard

/-- THE TOLD CARD OF 'n010_127.FnCharClassElementIsFixedByItsPrefix'. -/
def fnCharClassElementIsFixedByItsPrefixCard : Claim7 := { stood := { row := fnCharClassElementIsFixedByItsPrefixRow, standIns := [], harness := (true, "dffd32a670441b449f5976e16c3964e5b6fc928868831aba1743c0f223501bc0"), looks := false }, told := true, goes := false }
def FnCharClassElementIsFixedByItsPrefixToldSaid : Prop := Claim7.holds Tryf.pinned (.plain (OpenSpec.ofChange fnCharClassElementIsFixedByItsPrefixSpec)) fnCharClassElementIsFixedByItsPrefixCard
/-- ITS FALSE NEIGHBOUR. Refute it at one input. -/
def FnCharClassElementIsFixedByItsPrefixToldWrongFalsely : Prop := Claim7.holds Tryf.pinned (.plain (OpenSpec.ofChange fnCharClassElementIsFixedByItsPrefixWrong)) fnCharClassElementIsFixedByItsPrefixCard
end Rows
end Go.Proofs.YtopaaaacbegmnaaFmt
