/-
  DERIVED. GIVEN WITH THE SEED: THE CARDS: each row of YtopaaaacbegmnaaDoorRows.lean that lists a variable, with what it lists TIED to the program's text (the seventh form; the later family's looks); each row that meets fmt, with fmt's text TOLD by the authors' own Lean function (tested against real Go, not proved from fmt's source: count such statements apart). THE CARD IS WHAT COUNTS. Prove the row's statement (the work); the ties are given (YtopaaaacbegmnaaDoorTie.lean); close each card by the builder's one call (the guide's Derived/Test/ToyasCard.lean, 'card_holds'). Laid BY PROGRAM, IN A SANDBOX (cutbox-door.mjs). By AI agents, Wed Nov 11 2026. No macro, syntax, notation, axiom, sorry.
-/
import Derived.Test.YtopaaaacbegmnaaDoorRows
import GoSem.ClaimSeven
namespace Go.Proofs.YtopaaaacbegmnaaDoor
namespace Rows

/-- THE TIED CARD OF 'n010_54.FnAtoiModel'. -/
def fnAtoiModelCard : Claim7 := { stood := { row := fnAtoiModelRow, standIns := [], harness := (true, "a30db24ba69078ceb3456861987a86b63433b219645271c02fd288d7f940fa82"), looks := true }, kinds := [], alts := [], laidByText := true, laidKinds := [.data, .data, .data, .data, .sentinel, .sentinel, .listed, .data, .pinned], laidTests := true, laidLooks := .later }
def FnAtoiModelCardSaid : Prop := Claim7.holds Tryd.pinned (.plain (OpenSpec.ofChange fnAtoiModelSpec)) fnAtoiModelCard

/-- THE TIED CARD OF 'n010_54.FnAtoiNegation'. -/
def fnAtoiNegationCard : Claim7 := { stood := { row := fnAtoiNegationRow, standIns := [], harness := (true, "a30db24ba69078ceb3456861987a86b63433b219645271c02fd288d7f940fa82"), looks := true }, kinds := [], alts := [], laidByText := true, laidKinds := [.data, .data, .data, .data, .sentinel, .sentinel, .listed, .data, .pinned], laidTests := true, laidLooks := .later }
def FnAtoiNegationCardSaid : Prop := Claim7.holds Tryd.pinned (.plain (OpenSpec.ofChange fnAtoiNegationSpec)) fnAtoiNegationCard

/-- THE TIED CARD OF 'n010_138.FnWriteLitTabsShielded'. -/
def fnWriteLitTabsShieldedCard : Claim7 := { stood := { row := fnWriteLitTabsShieldedRow, standIns := [], harness := (true, "a30db24ba69078ceb3456861987a86b63433b219645271c02fd288d7f940fa82"), looks := true }, kinds := [], alts := [], laidByText := true, laidKinds := [.sentinel], laidTests := true, laidLooks := .later }
def FnWriteLitTabsShieldedCardSaid : Prop := Claim7.holds Tryd.pinned (.plain (OpenSpec.ofChange fnWriteLitTabsShieldedSpec)) fnWriteLitTabsShieldedCard

/-- THE SECOND FORM's CARD OF 'n010_54.FnAtoiModel'. -/
def fnAtoiModelUptoCard : Claim7 := { stood := { row := fnAtoiModelUptoRow, standIns := [], harness := (true, "a30db24ba69078ceb3456861987a86b63433b219645271c02fd288d7f940fa82"), looks := true }, kinds := [], alts := [], laidByText := true, laidKinds := [.data, .data, .data, .data, .sentinel, .sentinel, .listed, .data, .pinned], laidTests := true, laidLooks := .later }
def FnAtoiModelUptoCardSaid : Prop := Claim7.holds Tryd.pinned (.plain (OpenSpec.upto fnAtoiModelSpec)) fnAtoiModelUptoCard

/-- THE SECOND FORM's CARD OF 'n010_54.FnAtoiNegation'. -/
def fnAtoiNegationUptoCard : Claim7 := { stood := { row := fnAtoiNegationUptoRow, standIns := [], harness := (true, "a30db24ba69078ceb3456861987a86b63433b219645271c02fd288d7f940fa82"), looks := true }, kinds := [], alts := [], laidByText := true, laidKinds := [.data, .data, .data, .data, .sentinel, .sentinel, .listed, .data, .pinned], laidTests := true, laidLooks := .later }
def FnAtoiNegationUptoCardSaid : Prop := Claim7.holds Tryd.pinned (.plain (OpenSpec.upto fnAtoiNegationSpec)) fnAtoiNegationUptoCard

/-- THE SECOND FORM's CARD OF 'n010_138.FnWriteLitTabsShielded'. -/
def fnWriteLitTabsShieldedUptoCard : Claim7 := { stood := { row := fnWriteLitTabsShieldedUptoRow, standIns := [], harness := (true, "a30db24ba69078ceb3456861987a86b63433b219645271c02fd288d7f940fa82"), looks := true }, kinds := [], alts := [], laidByText := true, laidKinds := [.sentinel], laidTests := true, laidLooks := .later }
def FnWriteLitTabsShieldedUptoCardSaid : Prop := Claim7.holds Tryd.pinned (.plain (OpenSpec.upto fnWriteLitTabsShieldedSpec)) fnWriteLitTabsShieldedUptoCard
end Rows
end Go.Proofs.YtopaaaacbegmnaaDoor
