/-
  DERIVED. GIVEN WITH THE SEED: THE CARDS: each row of YtgalfebplancdaaDoorRows.lean that lists a variable, with what it lists TIED to the program's text (the seventh form; the later family's looks); each row that meets fmt, with fmt's text TOLD by the authors' own Lean function (tested against real Go, not proved from fmt's source: count such statements apart). THE CARD IS WHAT COUNTS. Prove the row's statement (the work); the ties are given (YtgalfebplancdaaDoorTie.lean); close each card by the builder's one call (the guide's Derived/Test/ToyasCard.lean, 'card_holds'). Laid BY PROGRAM, IN A SANDBOX (cutbox-door.mjs). By AI agents, Wed Nov 11 2026. No macro, syntax, notation, axiom, sorry.
-/
import Derived.Test.YtgalfebplancdaaDoorRows
import GoSem.ClaimSeven
namespace Go.Proofs.YtgalfebplancdaaDoor
namespace Rows

/-- THE TIED CARD OF 'laws.FnParseNumber'. -/
def fnParseNumberCard : Claim7 := { stood := { row := fnParseNumberRow, standIns := [], harness := (true, "97ac746d5f26ea9edb74db87afc6f35e39b24feb4ed5a4770ef35e08ff6449f7"), looks := false }, kinds := [], alts := [], laidByText := true, laidKinds := [.data, .pinned], laidTests := true, laidLooks := .later }
def FnParseNumberCardSaid : Prop := Claim7.holds Tryd.pinned (.plain (OpenSpec.ofChange fnParseNumberSpec)) fnParseNumberCard

/-- THE SECOND FORM's CARD OF 'laws.FnParseNumber'. -/
def fnParseNumberUptoCard : Claim7 := { stood := { row := fnParseNumberUptoRow, standIns := [], harness := (true, "97ac746d5f26ea9edb74db87afc6f35e39b24feb4ed5a4770ef35e08ff6449f7"), looks := false }, kinds := [], alts := [], laidByText := true, laidKinds := [.data, .pinned], laidTests := true, laidLooks := .later }
def FnParseNumberUptoCardSaid : Prop := Claim7.holds Tryd.pinned (.plain (OpenSpec.upto fnParseNumberSpec)) fnParseNumberUptoCard
end Rows
end Go.Proofs.YtgalfebplancdaaDoor
