/-
  DERIVED. GIVEN WITH THE SEED: THE CARDS: each row of YtnepjlfkbmindaaDoorRows.lean that lists a variable, with what it lists TIED to the program's text (the seventh form; the later family's looks); each row that meets fmt, with fmt's text TOLD by the authors' own Lean function (tested against real Go, not proved from fmt's source: count such statements apart). THE CARD IS WHAT COUNTS. Prove the row's statement (the work); the ties are given (YtnepjlfkbmindaaDoorTie.lean); close each card by the builder's one call (the guide's Derived/Test/ToyasCard.lean, 'card_holds'). Laid BY PROGRAM, IN A SANDBOX (cutbox-door.mjs). By AI agents, Wed Nov 11 2026. No macro, syntax, notation, axiom, sorry.
-/
import Derived.Test.YtnepjlfkbmindaaDoorRows
import GoSem.ClaimSeven
namespace Go.Proofs.YtnepjlfkbmindaaDoor
namespace Rows

/-- THE TIED CARD OF 'laws.FnReplaced'. -/
def fnReplacedCard : Claim7 := { stood := { row := fnReplacedRow, standIns := [], harness := (true, "c9aa06932b82996053343b552e38b1e7ff30548dc0b643d1cdf0999aca59627b"), looks := false }, kinds := [], alts := [], laidByText := true, laidKinds := [.data, .data, .data, .data, .data], laidTests := true, laidLooks := .later }
def FnReplacedCardSaid : Prop := Claim7.holds Tryd.pinned (.plain (OpenSpec.ofChange fnReplacedSpec)) fnReplacedCard

/-- THE SECOND FORM's CARD OF 'laws.FnReplaced'. -/
def fnReplacedUptoCard : Claim7 := { stood := { row := fnReplacedUptoRow, standIns := [], harness := (true, "c9aa06932b82996053343b552e38b1e7ff30548dc0b643d1cdf0999aca59627b"), looks := false }, kinds := [], alts := [], laidByText := true, laidKinds := [.data, .data, .data, .data, .data], laidTests := true, laidLooks := .later }
def FnReplacedUptoCardSaid : Prop := Claim7.holds Tryd.pinned (.plain (OpenSpec.upto fnReplacedSpec)) fnReplacedUptoCard
end Rows
end Go.Proofs.YtnepjlfkbmindaaDoor
