/-
  DERIVED. GIVEN WITH THE SEED: THE CARDS: each row of YtnhkhfbiknffpaaDoorRows.lean that lists a variable, with what it lists TIED to the program's text (the seventh form; the later family's looks); each row that meets fmt, with fmt's text TOLD by the authors' own Lean function (tested against real Go, not proved from fmt's source: count such statements apart). THE CARD IS WHAT COUNTS. Prove the row's statement (the work); the ties are given (YtnhkhfbiknffpaaDoorTie.lean); close each card by the builder's one call (the guide's Derived/Test/ToyasCard.lean, 'card_holds'). Laid BY PROGRAM, IN A SANDBOX (cutbox-door.mjs). By AI agents, Wed Nov 11 2026. No macro, syntax, notation, axiom, sorry.
-/
import Derived.Test.YtnhkhfbiknffpaaDoorRows
import GoSem.ClaimSeven
namespace Go.Proofs.YtnhkhfbiknffpaaDoor
namespace Rows

/-- THE TIED CARD OF 'laws.FnBlanks'. -/
def fnBlanksCard : Claim7 := { stood := { row := fnBlanksRow, standIns := [], harness := (true, "c6444e5a6ce6d688305ce58478171dfd86de7ad2e792124ead9082ef06a75f67"), looks := false }, kinds := [], alts := [], laidByText := true, laidKinds := [.data, .data], laidTests := true, laidLooks := .later }
def FnBlanksCardSaid : Prop := Claim7.holds Tryd.pinned (.plain (OpenSpec.ofChange fnBlanksSpec)) fnBlanksCard

/-- THE TIED CARD OF 'laws.FnAllBlank'. -/
def fnAllBlankCard : Claim7 := { stood := { row := fnAllBlankRow, standIns := [], harness := (true, "c6444e5a6ce6d688305ce58478171dfd86de7ad2e792124ead9082ef06a75f67"), looks := false }, kinds := [], alts := [], laidByText := true, laidKinds := [.data], laidTests := true, laidLooks := .later }
def FnAllBlankCardSaid : Prop := Claim7.holds Tryd.pinned (.plain (OpenSpec.ofChange fnAllBlankSpec)) fnAllBlankCard

/-- THE SECOND FORM's CARD OF 'laws.FnBlanks'. -/
def fnBlanksUptoCard : Claim7 := { stood := { row := fnBlanksUptoRow, standIns := [], harness := (true, "c6444e5a6ce6d688305ce58478171dfd86de7ad2e792124ead9082ef06a75f67"), looks := false }, kinds := [], alts := [], laidByText := true, laidKinds := [.data, .data], laidTests := true, laidLooks := .later }
def FnBlanksUptoCardSaid : Prop := Claim7.holds Tryd.pinned (.plain (OpenSpec.upto fnBlanksSpec)) fnBlanksUptoCard

/-- THE SECOND FORM's CARD OF 'laws.FnAllBlank'. -/
def fnAllBlankUptoCard : Claim7 := { stood := { row := fnAllBlankUptoRow, standIns := [], harness := (true, "c6444e5a6ce6d688305ce58478171dfd86de7ad2e792124ead9082ef06a75f67"), looks := false }, kinds := [], alts := [], laidByText := true, laidKinds := [.data], laidTests := true, laidLooks := .later }
def FnAllBlankUptoCardSaid : Prop := Claim7.holds Tryd.pinned (.plain (OpenSpec.upto fnAllBlankSpec)) fnAllBlankUptoCard
end Rows
end Go.Proofs.YtnhkhfbiknffpaaDoor
