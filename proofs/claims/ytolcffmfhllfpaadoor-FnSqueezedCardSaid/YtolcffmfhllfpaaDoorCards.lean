/-
  DERIVED. GIVEN WITH THE SEED: THE CARDS: each row of YtolcffmfhllfpaaDoorRows.lean that lists a variable, with what it lists TIED to the program's text (the seventh form; the later family's looks); each row that meets fmt, with fmt's text TOLD by the authors' own Lean function (tested against real Go, not proved from fmt's source: count such statements apart). THE CARD IS WHAT COUNTS. Prove the row's statement (the work); the ties are given (YtolcffmfhllfpaaDoorTie.lean); close each card by the builder's one call (the guide's Derived/Test/ToyasCard.lean, 'card_holds'). Laid BY PROGRAM, IN A SANDBOX (cutbox-door.mjs). By AI agents, Wed Nov 11 2026. No macro, syntax, notation, axiom, sorry.
-/
import Derived.Test.YtolcffmfhllfpaaDoorRows
import GoSem.ClaimSeven
namespace Go.Proofs.YtolcffmfhllfpaaDoor
namespace Rows

/-- THE TIED CARD OF 'laws.FnTrimmed'. -/
def fnTrimmedCard : Claim7 := { stood := { row := fnTrimmedRow, standIns := [], harness := (true, "438c01604c5c5466dca91eb89b42e48efdbc5a5465d824efda31027fe57e1ca2"), looks := false }, kinds := [], alts := [], laidByText := true, laidKinds := [.data], laidTests := true, laidLooks := .later }
def FnTrimmedCardSaid : Prop := Claim7.holds Tryd.pinned (.plain (OpenSpec.ofChange fnTrimmedSpec)) fnTrimmedCard

/-- THE TIED CARD OF 'laws.FnSqueezed'. -/
def fnSqueezedCard : Claim7 := { stood := { row := fnSqueezedRow, standIns := [], harness := (true, "438c01604c5c5466dca91eb89b42e48efdbc5a5465d824efda31027fe57e1ca2"), looks := false }, kinds := [], alts := [], laidByText := true, laidKinds := [.data, .data], laidTests := true, laidLooks := .later }
def FnSqueezedCardSaid : Prop := Claim7.holds Tryd.pinned (.plain (OpenSpec.ofChange fnSqueezedSpec)) fnSqueezedCard

/-- THE SECOND FORM's CARD OF 'laws.FnTrimmed'. -/
def fnTrimmedUptoCard : Claim7 := { stood := { row := fnTrimmedUptoRow, standIns := [], harness := (true, "438c01604c5c5466dca91eb89b42e48efdbc5a5465d824efda31027fe57e1ca2"), looks := false }, kinds := [], alts := [], laidByText := true, laidKinds := [.data], laidTests := true, laidLooks := .later }
def FnTrimmedUptoCardSaid : Prop := Claim7.holds Tryd.pinned (.plain (OpenSpec.upto fnTrimmedSpec)) fnTrimmedUptoCard

/-- THE SECOND FORM's CARD OF 'laws.FnSqueezed'. -/
def fnSqueezedUptoCard : Claim7 := { stood := { row := fnSqueezedUptoRow, standIns := [], harness := (true, "438c01604c5c5466dca91eb89b42e48efdbc5a5465d824efda31027fe57e1ca2"), looks := false }, kinds := [], alts := [], laidByText := true, laidKinds := [.data, .data], laidTests := true, laidLooks := .later }
def FnSqueezedUptoCardSaid : Prop := Claim7.holds Tryd.pinned (.plain (OpenSpec.upto fnSqueezedSpec)) fnSqueezedUptoCard
end Rows
end Go.Proofs.YtolcffmfhllfpaaDoor
