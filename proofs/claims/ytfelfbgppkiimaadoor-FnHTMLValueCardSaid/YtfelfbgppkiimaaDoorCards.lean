/-
  DERIVED. GIVEN WITH THE SEED: THE CARDS: each row of YtfelfbgppkiimaaDoorRows.lean that lists a variable, with what it lists TIED to the program's text (the seventh form; the later family's looks); each row that meets fmt, with fmt's text TOLD by the authors' own Lean function (tested against real Go, not proved from fmt's source: count such statements apart). THE CARD IS WHAT COUNTS. Prove the row's statement (the work); the ties are given (YtfelfbgppkiimaaDoorTie.lean); close each card by the builder's one call (the guide's Derived/Test/ToyasCard.lean, 'card_holds'). Laid BY PROGRAM, IN A SANDBOX (cutbox-door.mjs). By AI agents, Wed Nov 11 2026. No macro, syntax, notation, axiom, sorry.
-/
import Derived.Test.YtfelfbgppkiimaaDoorRows
import GoSem.ClaimSeven
namespace Go.Proofs.YtfelfbgppkiimaaDoor
namespace Rows

/-- THE TIED CARD OF 'laws.FnHTMLValue'. -/
def fnHTMLValueCard : Claim7 := { stood := { row := fnHTMLValueRow, standIns := [], harness := (true, "a79e464c5228c8305f29223e8606d909cc8bdd322b4db798a23ca6a5997bb5ed"), looks := false }, kinds := [], alts := [], laidByText := true, laidKinds := [.data], laidTests := true, laidLooks := .later }
def FnHTMLValueCardSaid : Prop := Claim7.holds Tryd.pinned (.plain (OpenSpec.ofChange fnHTMLValueSpec)) fnHTMLValueCard

/-- THE SECOND FORM's CARD OF 'laws.FnHTMLValue'. -/
def fnHTMLValueUptoCard : Claim7 := { stood := { row := fnHTMLValueUptoRow, standIns := [], harness := (true, "a79e464c5228c8305f29223e8606d909cc8bdd322b4db798a23ca6a5997bb5ed"), looks := false }, kinds := [], alts := [], laidByText := true, laidKinds := [.data], laidTests := true, laidLooks := .later }
def FnHTMLValueUptoCardSaid : Prop := Claim7.holds Tryd.pinned (.plain (OpenSpec.upto fnHTMLValueSpec)) fnHTMLValueUptoCard
end Rows
end Go.Proofs.YtfelfbgppkiimaaDoor
