/-
  DERIVED. GIVEN WITH THE SEED: THE PROGRAM's TIES (one call each: nine closed facts by the kernel) AND EACH ROW's TIE, after the 31st guide's Derived/Test/Toyas{Tie, Card}.lean. No idea stands in it: it is a product of the set-up. Laid BY PROGRAM, IN A SANDBOX (cutbox-door.mjs). By AI agents, Wed Nov 11 2026. No macro, syntax, notation, axiom, sorry.
-/
import Derived.Test.YtdklelnllhpbfaaDoorRows
import Derived.LaidByTextLater
import Derived.SevenTiedAt
import Derived.LaidSub
import Derived.LaidOnce
namespace Go.Proofs.YtdklelnllhpbfaaDoor
open Go
set_option maxRecDepth 100000
theorem seatTie1 : Tryd.prog.laidByTextLater [("loop.example/pub-g01476/pub/tdparse.URLEncodingTable", Rows.laid_loop_example_pub_g01476_pub_tdparse_URLEncodingTable), ("loop.example/pub-g01476/pub/tdparse.DataURIEncodingTable", Rows.laid_loop_example_pub_g01476_pub_tdparse_DataURIEncodingTable)] [.data, .data] true :=
  Program.laidByTextLater_by_one 19 8 257 (by kernel_rfl) (by kernel_rfl) (by kernel_rfl) (by kernel_rfl) (by kernel_rfl) (by kernel_rfl) (fun _ _ => by kernel_rfl)
theorem noOwnUnsafe : Tryd.pinned.checked.prog.headLifts.contains "ownunsafe" = false := by kernel_rfl
theorem tie : Tryd.prog.laidByTextLater [("loop.example/pub-g01476/pub/tdparse.URLEncodingTable", Rows.laid_loop_example_pub_g01476_pub_tdparse_URLEncodingTable), ("loop.example/pub-g01476/pub/tdparse.DataURIEncodingTable", Rows.laid_loop_example_pub_g01476_pub_tdparse_DataURIEncodingTable)] [.data, .data] true :=
  Program.laidByTextLater.sub seatTie1 ["loop.example/pub-g01476/pub/tdparse.URLEncodingTable", "loop.example/pub-g01476/pub/tdparse.DataURIEncodingTable"] (by kernel_rfl) (by kernel_rfl)
theorem fnEncoded_row_tie : Rows.fnEncodedRow.laidByTextAt .later Tryd.pinned [.data, .data] true :=
  OpenClaim.laidByTextAt_later rfl rfl tie noOwnUnsafe
theorem fnTables_row_tie : Rows.fnTablesRow.laidByTextAt .later Tryd.pinned [.data, .data] true :=
  OpenClaim.laidByTextAt_later rfl rfl tie noOwnUnsafe
theorem fnEncodedUpto_row_tie : Rows.fnEncodedUptoRow.laidByTextAt .later Tryd.pinned [.data, .data] true :=
  OpenClaim.laidByTextAt_later rfl rfl tie noOwnUnsafe
theorem fnTablesUpto_row_tie : Rows.fnTablesUptoRow.laidByTextAt .later Tryd.pinned [.data, .data] true :=
  OpenClaim.laidByTextAt_later rfl rfl tie noOwnUnsafe
end Go.Proofs.YtdklelnllhpbfaaDoor
