/-
  DERIVED. GIVEN WITH THE SEED: THE CARDS: each row of YtmbjhfkpmgkkbaaGreatDoorRows.lean that lists a variable, with what it lists TIED to the program's text (the seventh form; the later family's looks); each row that meets fmt, with fmt's text TOLD by the authors' own Lean function (tested against real Go, not proved from fmt's source: count such statements apart). THE CARD IS WHAT COUNTS. Prove the row's statement (the work); the ties are given (YtmbjhfkpmgkkbaaGreatDoorTie.lean); close each card by the builder's one call (the guide's Derived/Test/ToyasCard.lean, 'card_holds'). Laid BY PROGRAM, IN A SANDBOX (cutbox-door.mjs). By AI agents, Wed Nov 11 2026. No macro, syntax, notation, axiom, sorry.
-/
import Derived.Test.YtmbjhfkpmgkkbaaGreatDoorRows
import GoSem.ClaimSeven
namespace Go.Proofs.YtmbjhfkpmgkkbaaGreatDoor
namespace Rows

/-- THE TIED CARD OF 'n010_22.FnNamesByPrefixModel'. -/
def fnNamesByPrefixModelCard : Claim7 := { stood := { row := fnNamesByPrefixModelRow, standIns := [], harness := (true, "bba3d113240736cddf0751cb5e7910b0a77428c276ce21b92fe5bd1a70b435e3"), looks := false }, kinds := [], alts := [], laidByText := true, laidKinds := [.data, .pinned, .pinned], laidTests := true, laidLooks := .later }
def FnNamesByPrefixModelCardSaid : Prop := Claim7.holds Tryz.pinned (.plain (OpenSpec.ofChange fnNamesByPrefixModelSpec)) fnNamesByPrefixModelCard

/-- THE TIED CARD OF 'n010_22.FnNamesByPrefixRefines'. -/
def fnNamesByPrefixRefinesCard : Claim7 := { stood := { row := fnNamesByPrefixRefinesRow, standIns := [], harness := (true, "bba3d113240736cddf0751cb5e7910b0a77428c276ce21b92fe5bd1a70b435e3"), looks := false }, kinds := [], alts := [], laidByText := true, laidKinds := [.data, .pinned, .pinned], laidTests := true, laidLooks := .later }
def FnNamesByPrefixRefinesCardSaid : Prop := Claim7.holds Tryz.pinned (.plain (OpenSpec.ofChange fnNamesByPrefixRefinesSpec)) fnNamesByPrefixRefinesCard

/-- THE SECOND FORM's CARD OF 'n010_22.FnNamesByPrefixModel'. -/
def fnNamesByPrefixModelUptoCard : Claim7 := { stood := { row := fnNamesByPrefixModelUptoRow, standIns := [], harness := (true, "bba3d113240736cddf0751cb5e7910b0a77428c276ce21b92fe5bd1a70b435e3"), looks := false }, kinds := [], alts := [], laidByText := true, laidKinds := [.data, .pinned, .pinned], laidTests := true, laidLooks := .later }
def FnNamesByPrefixModelUptoCardSaid : Prop := Claim7.holds Tryz.pinned (.plain (OpenSpec.upto fnNamesByPrefixModelSpec)) fnNamesByPrefixModelUptoCard

/-- THE SECOND FORM's CARD OF 'n010_22.FnNamesByPrefixRefines'. -/
def fnNamesByPrefixRefinesUptoCard : Claim7 := { stood := { row := fnNamesByPrefixRefinesUptoRow, standIns := [], harness := (true, "bba3d113240736cddf0751cb5e7910b0a77428c276ce21b92fe5bd1a70b435e3"), looks := false }, kinds := [], alts := [], laidByText := true, laidKinds := [.data, .pinned, .pinned], laidTests := true, laidLooks := .later }
def FnNamesByPrefixRefinesUptoCardSaid : Prop := Claim7.holds Tryz.pinned (.plain (OpenSpec.upto fnNamesByPrefixRefinesSpec)) fnNamesByPrefixRefinesUptoCard
end Rows
end Go.Proofs.YtmbjhfkpmgkkbaaGreatDoor
