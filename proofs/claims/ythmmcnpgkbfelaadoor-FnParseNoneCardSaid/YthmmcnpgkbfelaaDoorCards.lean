/-
  DERIVED. GIVEN WITH THE SEED: THE CARDS: each row of YthmmcnpgkbfelaaDoorRows.lean that lists a variable, with what it lists TIED to the program's text (the seventh form; the later family's looks); each row that meets fmt, with fmt's text TOLD by the authors' own Lean function (tested against real Go, not proved from fmt's source: count such statements apart). THE CARD IS WHAT COUNTS. Prove the row's statement (the work); the ties are given (YthmmcnpgkbfelaaDoorTie.lean); close each card by the builder's one call (the guide's Derived/Test/ToyasCard.lean, 'card_holds'). Laid BY PROGRAM, IN A SANDBOX (cutbox-door.mjs). By AI agents, Wed Nov 11 2026. No macro, syntax, notation, axiom, sorry.
-/
import Derived.Test.YthmmcnpgkbfelaaDoorRows
import GoSem.ClaimSeven
namespace Go.Proofs.YthmmcnpgkbfelaaDoor
namespace Rows

/-- THE TIED CARD OF 'laws.FnParseNone'. -/
def fnParseNoneCard : Claim7 := { stood := { row := fnParseNoneRow, standIns := [], harness := (true, "970bd6338886a1ccb95df74de79e9a5e928db41469b7224641146f6f19e744ff"), looks := false }, kinds := [], alts := [], laidByText := true, laidKinds := [.data, .data, .data, .data], laidTests := true, laidLooks := .later }
def FnParseNoneCardSaid : Prop := Claim7.holds Tryd.pinned (.plain (OpenSpec.ofChange fnParseNoneSpec)) fnParseNoneCard

/-- THE SECOND FORM's CARD OF 'laws.FnParseNone'. -/
def fnParseNoneUptoCard : Claim7 := { stood := { row := fnParseNoneUptoRow, standIns := [], harness := (true, "970bd6338886a1ccb95df74de79e9a5e928db41469b7224641146f6f19e744ff"), looks := false }, kinds := [], alts := [], laidByText := true, laidKinds := [.data, .data, .data, .data], laidTests := true, laidLooks := .later }
def FnParseNoneUptoCardSaid : Prop := Claim7.holds Tryd.pinned (.plain (OpenSpec.upto fnParseNoneSpec)) fnParseNoneUptoCard
end Rows
end Go.Proofs.YthmmcnpgkbfelaaDoor
