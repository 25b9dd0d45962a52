/-
  DERIVED. GIVEN WITH THE SEED: THE CARDS: each row of YtdmkoggjnfhgfaaDoorRows.lean that lists a variable, with what it lists TIED to the program's text (the seventh form; the later family's looks); each row that meets fmt, with fmt's text TOLD by the authors' own Lean function (tested against real Go, not proved from fmt's source: count such statements apart). THE CARD IS WHAT COUNTS. Prove the row's statement (the work); the ties are given (YtdmkoggjnfhgfaaDoorTie.lean); close each card by the builder's one call (the guide's Derived/Test/ToyasCard.lean, 'card_holds'). Laid BY PROGRAM, IN A SANDBOX (cutbox-door.mjs). By AI agents, Wed Nov 11 2026. No macro, syntax, notation, axiom, sorry.
-/
import Derived.Test.YtdmkoggjnfhgfaaDoorRows
import GoSem.ClaimSeven
namespace Go.Proofs.YtdmkoggjnfhgfaaDoor
namespace Rows

/-- THE TIED CARD OF 'laws.FnHashText'. -/
def fnHashTextCard : Claim7 := { stood := { row := fnHashTextRow, standIns := [], harness := (true, "9ad5a615b9e1f24092ad19fe1686bf9ba17ee10161b9ba5a18122056ce247a37"), looks := false }, kinds := [], alts := [], laidByText := true, laidKinds := [.data, .data], laidTests := true, laidLooks := .later }
def FnHashTextCardSaid : Prop := Claim7.holds Tryd.pinned (.plain (OpenSpec.ofChange fnHashTextSpec)) fnHashTextCard

/-- THE SECOND FORM's CARD OF 'laws.FnHashText'. -/
def fnHashTextUptoCard : Claim7 := { stood := { row := fnHashTextUptoRow, standIns := [], harness := (true, "9ad5a615b9e1f24092ad19fe1686bf9ba17ee10161b9ba5a18122056ce247a37"), looks := false }, kinds := [], alts := [], laidByText := true, laidKinds := [.data, .data], laidTests := true, laidLooks := .later }
def FnHashTextUptoCardSaid : Prop := Claim7.holds Tryd.pinned (.plain (OpenSpec.upto fnHashTextSpec)) fnHashTextUptoCard
end Rows
end Go.Proofs.YtdmkoggjnfhgfaaDoor
