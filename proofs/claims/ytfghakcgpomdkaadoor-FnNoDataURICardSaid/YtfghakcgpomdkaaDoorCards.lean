/-
  DERIVED. GIVEN WITH THE SEED: THE CARDS: each row of YtfghakcgpomdkaaDoorRows.lean that lists a variable, with what it lists TIED to the program's text (the seventh form; the later family's looks); each row that meets fmt, with fmt's text TOLD by the authors' own Lean function (tested against real Go, not proved from fmt's source: count such statements apart). THE CARD IS WHAT COUNTS. Prove the row's statement (the work); the ties are given (YtfghakcgpomdkaaDoorTie.lean); close each card by the builder's one call (the guide's Derived/Test/ToyasCard.lean, 'card_holds'). Laid BY PROGRAM, IN A SANDBOX (cutbox-door.mjs). By AI agents, Wed Nov 11 2026. No macro, syntax, notation, axiom, sorry.
-/
import Derived.Test.YtfghakcgpomdkaaDoorRows
import GoSem.ClaimSeven
namespace Go.Proofs.YtfghakcgpomdkaaDoor
namespace Rows

/-- THE TIED CARD OF 'laws.FnNoDataURI'. -/
def fnNoDataURICard : Claim7 := { stood := { row := fnNoDataURIRow, standIns := [], harness := (true, "05ef5b5d089985e0d31aa45da99213cfa5a9fc918564aa1b4eb9edeebc418f55"), looks := false }, kinds := [], alts := [], laidByText := true, laidKinds := [.sentinel, .data], laidTests := true, laidLooks := .later }
def FnNoDataURICardSaid : Prop := Claim7.holds Tryd.pinned (.plain (OpenSpec.ofChange fnNoDataURISpec)) fnNoDataURICard

/-- THE SECOND FORM's CARD OF 'laws.FnNoDataURI'. -/
def fnNoDataURIUptoCard : Claim7 := { stood := { row := fnNoDataURIUptoRow, standIns := [], harness := (true, "05ef5b5d089985e0d31aa45da99213cfa5a9fc918564aa1b4eb9edeebc418f55"), looks := false }, kinds := [], alts := [], laidByText := true, laidKinds := [.sentinel, .data], laidTests := true, laidLooks := .later }
def FnNoDataURIUptoCardSaid : Prop := Claim7.holds Tryd.pinned (.plain (OpenSpec.upto fnNoDataURISpec)) fnNoDataURIUptoCard
end Rows
end Go.Proofs.YtfghakcgpomdkaaDoor
