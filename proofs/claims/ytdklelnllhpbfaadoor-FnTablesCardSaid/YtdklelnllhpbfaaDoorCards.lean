/-
  DERIVED. GIVEN WITH THE SEED: THE CARDS: each row of YtdklelnllhpbfaaDoorRows.lean that lists a variable, with what it lists TIED to the program's text (the seventh form; the later family's looks); each row that meets fmt, with fmt's text TOLD by the authors' own Lean function (tested against real Go, not proved from fmt's source: count such statements apart). THE CARD IS WHAT COUNTS. Prove the row's statement (the work); the ties are given (YtdklelnllhpbfaaDoorTie.lean); close each card by the builder's one call (the guide's Derived/Test/ToyasCard.lean, 'card_holds'). Laid BY PROGRAM, IN A SANDBOX (cutbox-door.mjs). By AI agents, Wed Nov 11 2026. No macro, syntax, notation, axiom, sorry.
-/
import Derived.Test.YtdklelnllhpbfaaDoorRows
import GoSem.ClaimSeven
namespace Go.Proofs.YtdklelnllhpbfaaDoor
namespace Rows

/-- THE TIED CARD OF 'laws.FnEncoded'. -/
def fnEncodedCard : Claim7 := { stood := { row := fnEncodedRow, standIns := [], harness := (true, "6f1219c62d31c4c43fe6705877f23ac9430b0d37d3fdf0c37801f05aa7a24a6a"), looks := false }, kinds := [], alts := [], laidByText := true, laidKinds := [.data, .data], laidTests := true, laidLooks := .later }
def FnEncodedCardSaid : Prop := Claim7.holds Tryd.pinned (.plain (OpenSpec.ofChange fnEncodedSpec)) fnEncodedCard

/-- THE TIED CARD OF 'laws.FnTables'. -/
def fnTablesCard : Claim7 := { stood := { row := fnTablesRow, standIns := [], harness := (true, "6f1219c62d31c4c43fe6705877f23ac9430b0d37d3fdf0c37801f05aa7a24a6a"), looks := false }, kinds := [], alts := [], laidByText := true, laidKinds := [.data, .data], laidTests := true, laidLooks := .later }
def FnTablesCardSaid : Prop := Claim7.holds Tryd.pinned (.plain (OpenSpec.ofChange fnTablesSpec)) fnTablesCard

/-- THE SECOND FORM's CARD OF 'laws.FnEncoded'. -/
def fnEncodedUptoCard : Claim7 := { stood := { row := fnEncodedUptoRow, standIns := [], harness := (true, "6f1219c62d31c4c43fe6705877f23ac9430b0d37d3fdf0c37801f05aa7a24a6a"), looks := false }, kinds := [], alts := [], laidByText := true, laidKinds := [.data, .data], laidTests := true, laidLooks := .later }
def FnEncodedUptoCardSaid : Prop := Claim7.holds Tryd.pinned (.plain (OpenSpec.upto fnEncodedSpec)) fnEncodedUptoCard

/-- THE SECOND FORM's CARD OF 'laws.FnTables'. -/
def fnTablesUptoCard : Claim7 := { stood := { row := fnTablesUptoRow, standIns := [], harness := (true, "6f1219c62d31c4c43fe6705877f23ac9430b0d37d3fdf0c37801f05aa7a24a6a"), looks := false }, kinds := [], alts := [], laidByText := true, laidKinds := [.data, .data], laidTests := true, laidLooks := .later }
def FnTablesUptoCardSaid : Prop := Claim7.holds Tryd.pinned (.plain (OpenSpec.upto fnTablesSpec)) fnTablesUptoCard
end Rows
end Go.Proofs.YtdklelnllhpbfaaDoor
