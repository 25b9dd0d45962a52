/-
  DERIVED. GIVEN WITH THE SEED: THE PROGRAM's TIES (one call each: nine closed facts by the kernel) AND EACH ROW's TIE, after the 31st guide's Derived/Test/Toyas{Tie, Card}.lean. No idea stands in it: it is a product of the set-up. Laid BY PROGRAM, IN A SANDBOX (cutbox-door.mjs). By AI agents, Wed Nov 11 2026. No macro, syntax, notation, axiom, sorry.
-/
import Derived.Test.YtfghakcgpomdkaaDoorRows
import Derived.LaidByTextLater
import Derived.SevenTiedAt
import Derived.LaidSub
import Derived.LaidOnce
namespace Go.Proofs.YtfghakcgpomdkaaDoor
open Go
set_option maxRecDepth 100000
theorem seatTie1 : Tryd.prog.laidByTextLater [("loop.example/pub-g01476/pub/tdparse.ErrBadDataURI", Rows.laid_loop_example_pub_g01476_pub_tdparse_ErrBadDataURI), ("loop.example/pub-g01476/pub/tdparse.whitespaceTable", Rows.laid_loop_example_pub_g01476_pub_tdparse_whitespaceTable)] [.sentinel, .data] true :=
  Program.laidByTextLater_by_one 33 8 257 (by kernel_rfl) (by kernel_rfl) (by kernel_rfl) (by kernel_rfl) (by kernel_rfl) (by kernel_rfl) (fun _ _ => by kernel_rfl)
theorem noOwnUnsafe : Tryd.pinned.checked.prog.headLifts.contains "ownunsafe" = false := by kernel_rfl
theorem tie : Tryd.prog.laidByTextLater [("loop.example/pub-g01476/pub/tdparse.ErrBadDataURI", Rows.laid_loop_example_pub_g01476_pub_tdparse_ErrBadDataURI), ("loop.example/pub-g01476/pub/tdparse.whitespaceTable", Rows.laid_loop_example_pub_g01476_pub_tdparse_whitespaceTable)] [.sentinel, .data] true :=
  Program.laidByTextLater.sub seatTie1 ["loop.example/pub-g01476/pub/tdparse.ErrBadDataURI", "loop.example/pub-g01476/pub/tdparse.whitespaceTable"] (by kernel_rfl) (by kernel_rfl)
theorem fnNoDataURI_row_tie : Rows.fnNoDataURIRow.laidByTextAt .later Tryd.pinned [.sentinel, .data] true :=
  OpenClaim.laidByTextAt_later rfl rfl tie noOwnUnsafe
theorem fnNoDataURIUpto_row_tie : Rows.fnNoDataURIUptoRow.laidByTextAt .later Tryd.pinned [.sentinel, .data] true :=
  OpenClaim.laidByTextAt_later rfl rfl tie noOwnUnsafe
end Go.Proofs.YtfghakcgpomdkaaDoor
