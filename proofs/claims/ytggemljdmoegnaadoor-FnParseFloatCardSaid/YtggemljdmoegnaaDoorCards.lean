/-
  DERIVED. GIVEN WITH THE SEED: THE CARDS: each row of YtggemljdmoegnaaDoorRows.lean that lists a variable, with what it lists TIED to the program's text (the seventh form; the later family's looks); each row that meets fmt, with fmt's text TOLD by the authors' own Lean function (tested against real Go, not proved from fmt's source: count such statements apart). THE CARD IS WHAT COUNTS. Prove the row's statement (the work); the ties are given (YtggemljdmoegnaaDoorTie.lean); close each card by the builder's one call (the guide's Derived/Test/ToyasCard.lean, 'card_holds'). Laid BY PROGRAM, IN A SANDBOX (cutbox-door.mjs). By AI agents, Wed Nov 11 2026. No macro, syntax, notation, axiom, sorry.
-/
import Derived.Test.YtggemljdmoegnaaDoorRows
import GoSem.ClaimSeven
namespace Go.Proofs.YtggemljdmoegnaaDoor
namespace Rows

/-- THE TIED CARD OF 'laws.FnParseDecimal'. -/
def fnParseDecimalCard : Claim7 := { stood := { row := fnParseDecimalRow, standIns := [], harness := (true, "063586f2ace6c76dac62fe85bd4fbdce395b3c63b0e9c7c03137c46052ebf28f"), looks := false }, kinds := [], alts := [], laidByText := true, laidKinds := [.data, .data, .data, .data], laidTests := true, laidLooks := .later }
def FnParseDecimalCardSaid : Prop := Claim7.holds Tryd.pinned (.plain (OpenSpec.ofChange fnParseDecimalSpec)) fnParseDecimalCard

/-- THE TIED CARD OF 'laws.FnParseFloat'. -/
def fnParseFloatCard : Claim7 := { stood := { row := fnParseFloatRow, standIns := [], harness := (true, "063586f2ace6c76dac62fe85bd4fbdce395b3c63b0e9c7c03137c46052ebf28f"), looks := false }, kinds := [], alts := [], laidByText := true, laidKinds := [.data, .data, .data, .data], laidTests := true, laidLooks := .later }
def FnParseFloatCardSaid : Prop := Claim7.holds Tryd.pinned (.plain (OpenSpec.ofChange fnParseFloatSpec)) fnParseFloatCard

/-- THE SECOND FORM's CARD OF 'laws.FnParseDecimal'. -/
def fnParseDecimalUptoCard : Claim7 := { stood := { row := fnParseDecimalUptoRow, standIns := [], harness := (true, "063586f2ace6c76dac62fe85bd4fbdce395b3c63b0e9c7c03137c46052ebf28f"), looks := false }, kinds := [], alts := [], laidByText := true, laidKinds := [.data, .data, .data, .data], laidTests := true, laidLooks := .later }
def FnParseDecimalUptoCardSaid : Prop := Claim7.holds Tryd.pinned (.plain (OpenSpec.upto fnParseDecimalSpec)) fnParseDecimalUptoCard

/-- THE SECOND FORM's CARD OF 'laws.FnParseFloat'. -/
def fnParseFloatUptoCard : Claim7 := { stood := { row := fnParseFloatUptoRow, standIns := [], harness := (true, "063586f2ace6c76dac62fe85bd4fbdce395b3c63b0e9c7c03137c46052ebf28f"), looks := false }, kinds := [], alts := [], laidByText := true, laidKinds := [.data, .data, .data, .data], laidTests := true, laidLooks := .later }
def FnParseFloatUptoCardSaid : Prop := Claim7.holds Tryd.pinned (.plain (OpenSpec.upto fnParseFloatSpec)) fnParseFloatUptoCard
end Rows
end Go.Proofs.YtggemljdmoegnaaDoor
