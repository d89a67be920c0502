/-
  No cell of these rows narrows 'for every input' (looked for: loops, veiled, ifaces, maps, wideKeys, modest, calm, conditions, laid).
  DERIVED. THE GIVEN ROWS OF THIS SEAT. 2 by the template 'for every input the law returns true; each argument reads behind the call as it read before'; 0 by the template 'total and deterministic' (their statements: YtopaaaacbegmnaaFmtTotals.lean).
  GIVEN WITH THE SEED: the statements are not yours to turn. If you find one false, say at which input.
  Laid BY PROGRAM, IN A SANDBOX (cutbox-rows.mjs): the forced cells as the released guide's own fill.sh prints them over the translation a6e0649532132fa8… (all of the seat's roots in one cut). By AI agents, Wed Nov 11 2026. No macro, syntax, notation, axiom, sorry.
-/
import Derived.Test.YtopaaaacbegmnaaFmtChecked
import GoSem.Claim
import GoSem.ClaimJoined
import GoSem.ClaimMapViews
import Derived.JoinedTies
import Derived.KernelRfl
namespace Go.Proofs.YtopaaaacbegmnaaFmt
/- THE CELL 'sum', in the pinned program and in every row, IS THE sha256 OF THE DUMP (.gsa) THAT YtopaaaacbegmnaaFmtProg.lean LOADS. Nothing in Lean hashes anything: it is a label: what it is worth is what the hold of that sum in a sandbox is worth. -/
noncomputable def Tryf.pinned : Pinned := { name := "ytopaaaacbegmnaafmt", sum := "a6e0649532132fa80ccc35d4ae699a0a514541450f14422fee7f7fc0396a5c0f", checked := Tryf.checked }
namespace Rows
def none {H : Type} : Left H := { results := [], args := [] }

/-- 'n010_127.FnCharClassCaseTable': WHATEVER THE INPUT: true; the input reads as it did. -/
def fnCharClassCaseTableSpec : ChangeSpec := { name := "fnCharClassCaseTable", fn := fun _ => fun
  | [d] => { results := [.lit (.bool true)], args := [d] }
  | _ => none }
def fnCharClassCaseTableRow : OpenClaim := { program := "ytopaaaacbegmnaafmt", sum := "a6e0649532132fa80ccc35d4ae699a0a514541450f14422fee7f7fc0396a5c0f", func := "mvdan.cc/sh/v3/n010_127.FnCharClassCaseTable", spec := "fnCharClassCaseTable", stops := ["fmt.errorf"], inPlace := ["fmt.errorf"], apart := false }
/-- NO THEOREM (fmt's text is open here; it may be false): for the released tool's asking of the row's closed facts alone. THE STATEMENT IS 'FnCharClassCaseTableToldSaid' (YtopaaaacbegmnaaFmtCards.lean). -/
def FnCharClassCaseTableFormAsk : Prop := fnCharClassCaseTableRow.holds Tryf.pinned (OpenSpec.ofChange fnCharClassCaseTableSpec)

/-- ITS FALSE NEIGHBOUR: 'it returns false'. Refute it at one input. -/
def fnCharClassCaseTableWrong : ChangeSpec := { name := "fnCharClassCaseTable", fn := fun _ => fun
  | [d] => { results := [.lit (.bool false)], args := [d] }
  | _ => none }
def FnCharClassCaseTableWrongFormAsk : Prop := fnCharClassCaseTableRow.holds Tryf.pinned (OpenSpec.ofChange fnCharClassCaseTableWrong)

/-- 'n010_127.FnCharClassElementIsFixedByItsPrefix': WHATEVER THE INPUT: true; the input reads as it did. -/
def fnCharClassElementIsFixedByItsPrefixSpec : ChangeSpec := { name := "fnCharClassElementIsFixedByItsPrefix", fn := fun _ => fun
  | [d1, d2] => { results := [.lit (.bool true)], args := [d1, d2] }
  | _ => none }
def fnCharClassElementIsFixedByItsPrefixRow : OpenClaim := { program := "ytopaaaacbegmnaafmt", sum := "a6e0649532132fa80ccc35d4ae699a0a514541450f14422fee7f7fc0396a5c0f", func := "mvdan.cc/sh/v3/n010_127.FnCharClassElementIsFixedByItsPrefix", spec := "fnCharClassElementIsFixedByItsPrefix", stops := ["fmt.errorf"], inPlace := ["fmt.errorf"], apart := false }
/-- NO THEOREM (fmt's text is open here; it may be false): for the released tool's asking of the row's closed facts alone. THE STATEMENT IS 'FnCharClassElementIsFixedByItsPrefixToldSaid' (YtopaaaacbegmnaaFmtCards.lean). -/
def FnCharClassElementIsFixedByItsPrefixFormAsk : Prop := fnCharClassElementIsFixedByItsPrefixRow.holds Tryf.pinned (OpenSpec.ofChange fnCharClassElementIsFixedByItsPrefixSpec)

/-- ITS FALSE NEIGHBOUR: 'it returns false'. Refute it at one input. -/
def fnCharClassElementIsFixedByItsPrefixWrong : ChangeSpec := { name := "fnCharClassElementIsFixedByItsPrefix", fn := fun _ => fun
  | [d1, d2] => { results := [.lit (.bool false)], args := [d1, d2] }
  | _ => none }
def FnCharClassElementIsFixedByItsPrefixWrongFormAsk : Prop := fnCharClassElementIsFixedByItsPrefixRow.holds Tryf.pinned (OpenSpec.ofChange fnCharClassElementIsFixedByItsPrefixWrong)

end Rows
end Go.Proofs.YtopaaaacbegmnaaFmt
