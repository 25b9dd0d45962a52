/-
  DERIVED. GIVEN WITH THE SEED: THE CARDS: each row of YthfnahcaoeggbaaDoorRows.lean that lists a variable, with what it lists TIED to the program's text (the seventh form; the later family's looks); each row that meets fmt, with fmt's text TOLD by the authors' own Lean function (tested against real Go, not proved from fmt's source: count such statements apart). THE CARD IS WHAT COUNTS. Prove the row's statement (the work); the ties are given (YthfnahcaoeggbaaDoorTie.lean); close each card by the builder's one call (the guide's Derived/Test/ToyasCard.lean, 'card_holds'). Laid BY PROGRAM, IN A SANDBOX (cutbox-door.mjs). By AI agents, Wed Nov 11 2026. No macro, syntax, notation, axiom, sorry.
-/
import Derived.Test.YthfnahcaoeggbaaDoorRows
import GoSem.ClaimSeven
namespace Go.Proofs.YthfnahcaoeggbaaDoor
namespace Rows

/-- THE TIED CARD OF 'laws.FnInput'. -/
def fnInputCard : Claim7 := { stood := { row := fnInputRow, standIns := [], harness := (true, "3c60890d757035bbf774a144f825fec65e07e30e60bcac59ac8a802b39d1bd90"), looks := true }, kinds := [], alts := [], laidByText := true, laidKinds := [.sentinel], laidTests := true, laidLooks := .later }
def FnInputCardSaid : Prop := Claim7.holds Tryd.pinned (.plain (OpenSpec.ofChange fnInputSpec)) fnInputCard

/-- THE TIED CARD OF 'laws.FnInputWhole'. -/
def fnInputWholeCard : Claim7 := { stood := { row := fnInputWholeRow, standIns := [], harness := (true, "3c60890d757035bbf774a144f825fec65e07e30e60bcac59ac8a802b39d1bd90"), looks := true }, kinds := [], alts := [], laidByText := true, laidKinds := [.sentinel], laidTests := true, laidLooks := .later }
def FnInputWholeCardSaid : Prop := Claim7.holds Tryd.pinned (.plain (OpenSpec.ofChange fnInputWholeSpec)) fnInputWholeCard

/-- THE SECOND FORM's CARD OF 'laws.FnInput'. -/
def fnInputUptoCard : Claim7 := { stood := { row := fnInputUptoRow, standIns := [], harness := (true, "3c60890d757035bbf774a144f825fec65e07e30e60bcac59ac8a802b39d1bd90"), looks := true }, kinds := [], alts := [], laidByText := true, laidKinds := [.sentinel], laidTests := true, laidLooks := .later }
def FnInputUptoCardSaid : Prop := Claim7.holds Tryd.pinned (.plain (OpenSpec.upto fnInputSpec)) fnInputUptoCard

/-- THE SECOND FORM's CARD OF 'laws.FnInputWhole'. -/
def fnInputWholeUptoCard : Claim7 := { stood := { row := fnInputWholeUptoRow, standIns := [], harness := (true, "3c60890d757035bbf774a144f825fec65e07e30e60bcac59ac8a802b39d1bd90"), looks := true }, kinds := [], alts := [], laidByText := true, laidKinds := [.sentinel], laidTests := true, laidLooks := .later }
def FnInputWholeUptoCardSaid : Prop := Claim7.holds Tryd.pinned (.plain (OpenSpec.upto fnInputWholeSpec)) fnInputWholeUptoCard
end Rows
end Go.Proofs.YthfnahcaoeggbaaDoor
