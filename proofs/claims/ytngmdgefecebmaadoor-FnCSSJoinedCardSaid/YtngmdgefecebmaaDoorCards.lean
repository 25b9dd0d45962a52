/-
  DERIVED. GIVEN WITH THE SEED: THE CARDS: each row of YtngmdgefecebmaaDoorRows.lean that lists a variable, with what it lists TIED to the program's text (the seventh form; the later family's looks); each row that meets fmt, with fmt's text TOLD by the authors' own Lean function (tested against real Go, not proved from fmt's source: count such statements apart). THE CARD IS WHAT COUNTS. Prove the row's statement (the work); the ties are given (YtngmdgefecebmaaDoorTie.lean); close each card by the builder's one call (the guide's Derived/Test/ToyasCard.lean, 'card_holds'). Laid BY PROGRAM, IN A SANDBOX (cutbox-door.mjs). By AI agents, Wed Nov 11 2026. No macro, syntax, notation, axiom, sorry.
-/
import Derived.Test.YtngmdgefecebmaaDoorRows
import GoSem.ClaimSeven
namespace Go.Proofs.YtngmdgefecebmaaDoor
namespace Rows

/-- THE TIED CARD OF 'laws.FnCSSJoined'. -/
def fnCSSJoinedCard : Claim7 := { stood := { row := fnCSSJoinedRow, standIns := [], harness := (true, "dd78388541785b3c66864020027695b408f8edea1f68cef969ab11a7fbbb75b6"), looks := true }, kinds := [], alts := [], laidByText := true, laidKinds := [.sentinel], laidTests := true, laidLooks := .later }
def FnCSSJoinedCardSaid : Prop := Claim7.holds Tryd.pinned (.plain (OpenSpec.ofChange fnCSSJoinedSpec)) fnCSSJoinedCard

/-- THE SECOND FORM's CARD OF 'laws.FnCSSJoined'. -/
def fnCSSJoinedUptoCard : Claim7 := { stood := { row := fnCSSJoinedUptoRow, standIns := [], harness := (true, "dd78388541785b3c66864020027695b408f8edea1f68cef969ab11a7fbbb75b6"), looks := true }, kinds := [], alts := [], laidByText := true, laidKinds := [.sentinel], laidTests := true, laidLooks := .later }
def FnCSSJoinedUptoCardSaid : Prop := Claim7.holds Tryd.pinned (.plain (OpenSpec.upto fnCSSJoinedSpec)) fnCSSJoinedUptoCard
end Rows
end Go.Proofs.YtngmdgefecebmaaDoor
