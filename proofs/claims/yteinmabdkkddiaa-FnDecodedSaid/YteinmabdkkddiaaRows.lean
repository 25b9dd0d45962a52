/-
  No cell of these rows narrows 'for every input' (looked for: loops, veiled, ifaces, maps, wideKeys, modest, calm, conditions, laid).
  DERIVED. THE GIVEN ROWS OF THIS SEAT. 3 by the template 'for every input the law returns true; each argument reads behind the call as it read before'; 0 by the template 'total and deterministic' (their statements: YteinmabdkkddiaaTotals.lean).
  GIVEN WITH THE SEED: the statements are not yours to turn. If you find one false, say at which input.
  Laid BY PROGRAM, IN A SANDBOX (cutbox-rows.mjs): the forced cells as the released guide's own fill.sh prints them over the translation dbaa4e2b8ddf9824… (all of the seat's roots in one cut). By AI agents, Wed Nov 11 2026. No macro, syntax, notation, axiom, sorry.
-/
import Derived.Test.YteinmabdkkddiaaChecked
import GoSem.Claim
import GoSem.ClaimJoined
import GoSem.ClaimMapViews
import Derived.JoinedTies
import Derived.KernelRfl
namespace Go.Proofs.Yteinmabdkkddiaa
/- THE CELL 'sum', in the pinned program and in every row, IS THE sha256 OF THE DUMP (.gsa) THAT YteinmabdkkddiaaProg.lean LOADS. Nothing in Lean hashes anything: it is a label: what it is worth is what the hold of that sum in a sandbox is worth. -/
noncomputable def Try.pinned : Pinned := { name := "yteinmabdkkddiaa", sum := "dbaa4e2b8ddf98244e235e22249aeddfd992e04201faf955f7d1949a8f8bfb59", checked := Try.checked }
namespace Rows
def none {H : Type} : Left H := { results := [], args := [] }

/-- 'laws.FnDecoded': WHATEVER THE INPUT: true; the input reads as it did. -/
def fnDecodedSpec : ChangeSpec := { name := "fnDecoded", fn := fun _ => fun
  | [d] => { results := [.lit (.bool true)], args := [d] }
  | _ => none }
def fnDecodedRow : OpenClaim := { program := "yteinmabdkkddiaa", sum := "dbaa4e2b8ddf98244e235e22249aeddfd992e04201faf955f7d1949a8f8bfb59", func := "loop.example/pub-g01476/laws.FnDecoded", spec := "fnDecoded", apart := false }
def FnDecodedSaid : Prop := fnDecodedRow.holds Try.pinned (OpenSpec.ofChange fnDecodedSpec)

/-- ITS FALSE NEIGHBOUR: 'it returns false'. Refute it at one input. -/
def fnDecodedWrong : ChangeSpec := { name := "fnDecoded", fn := fun _ => fun
  | [d] => { results := [.lit (.bool false)], args := [d] }
  | _ => none }
def FnDecodedWrongFalsely : Prop := fnDecodedRow.holds Try.pinned (OpenSpec.ofChange fnDecodedWrong)

/-- 'laws.FnNoQuote': WHATEVER THE INPUT: true; the input reads as it did. -/
def fnNoQuoteSpec : ChangeSpec := { name := "fnNoQuote", fn := fun _ => fun
  | [d] => { results := [.lit (.bool true)], args := [d] }
  | _ => none }
def fnNoQuoteRow : OpenClaim := { program := "yteinmabdkkddiaa", sum := "dbaa4e2b8ddf98244e235e22249aeddfd992e04201faf955f7d1949a8f8bfb59", func := "loop.example/pub-g01476/laws.FnNoQuote", spec := "fnNoQuote", apart := false }
def FnNoQuoteSaid : Prop := fnNoQuoteRow.holds Try.pinned (OpenSpec.ofChange fnNoQuoteSpec)

/-- ITS FALSE NEIGHBOUR: 'it returns false'. Refute it at one input. -/
def fnNoQuoteWrong : ChangeSpec := { name := "fnNoQuote", fn := fun _ => fun
  | [d] => { results := [.lit (.bool false)], args := [d] }
  | _ => none }
def FnNoQuoteWrongFalsely : Prop := fnNoQuoteRow.holds Try.pinned (OpenSpec.ofChange fnNoQuoteWrong)

/-- 'laws.FnQuoteEntity': WHATEVER THE INPUT: true; the input reads as it did. -/
def fnQuoteEntitySpec : ChangeSpec := { name := "fnQuoteEntity", fn := fun _ => fun
  | [d1, d2] => { results := [.lit (.bool true)], args := [d1, d2] }
  | _ => none }
def fnQuoteEntityRow : OpenClaim := { program := "yteinmabdkkddiaa", sum := "dbaa4e2b8ddf98244e235e22249aeddfd992e04201faf955f7d1949a8f8bfb59", func := "loop.example/pub-g01476/laws.FnQuoteEntity", spec := "fnQuoteEntity", apart := false }
def FnQuoteEntitySaid : Prop := fnQuoteEntityRow.holds Try.pinned (OpenSpec.ofChange fnQuoteEntitySpec)

/-- ITS FALSE NEIGHBOUR: 'it returns false'. Refute it at one input. -/
def fnQuoteEntityWrong : ChangeSpec := { name := "fnQuoteEntity", fn := fun _ => fun
  | [d1, d2] => { results := [.lit (.bool false)], args := [d1, d2] }
  | _ => none }
def FnQuoteEntityWrongFalsely : Prop := fnQuoteEntityRow.holds Try.pinned (OpenSpec.ofChange fnQuoteEntityWrong)

/- THE SECOND FORM. 'bulk': how many values and letters a reading holds, each counted each time it is reached (what is shared counts as often as it is met; a slice's spare places count too). A statement '..UptoSaid' is the law's where the arguments, and the package variables that the reading takes, are together of bulk at most 1048576: NARROWER than '..Said'. Prove '..Said' where nothing that the law and all that it calls make is longer than what came in: it says more and counts as full. Else prove '..UptoSaid'. A law counts once. -/
mutual
def uptoBulk {H : Type} : DataW H → Nat
  | .lit (.string bytes) => bytes.length + 1
  | .lit _ => 1
  | .nil => 1
  | .ptr d => uptoBulk d + 1
  | .slice elems spare => uptoBulkAll elems + uptoBulkAll spare + 1
  | .agg parts => uptoBulkAll parts + 1
  | .iface _ d => uptoBulk d + 1
  | .map entries => uptoBulkEntries entries + 1
  | .held _ => 1
def uptoBulkAll {H : Type} : List (DataW H) → Nat
  | [] => 0
  | d :: r => uptoBulk d + uptoBulkAll r
def uptoBulkEntries {H : Type} : List (Lit × DataW H) → Nat
  | [] => 0
  | x :: r => uptoBulkEntry x + uptoBulkEntries r
def uptoBulkEntry {H : Type} : Lit × DataW H → Nat
  | (.string bytes, d) => bytes.length + uptoBulk d + 1
  | (_, d) => uptoBulk d + 1
 end
def uptoSmall : (H : Type) → List (DataW H) → Bool := fun _ ds => decide (uptoBulkAll ds ≤ 1048576)
def OpenSpec.upto (s : _root_.Go.ChangeSpec) : _root_.Go.OpenSpec := { _root_.Go.OpenSpec.ofChange s with cond := some uptoSmall }

/-- 'laws.FnDecoded', WHERE WHAT IT READS IS OF BULK AT MOST 1048576: true; the input reads as it did. -/
def fnDecodedUptoRow : OpenClaim := { program := "yteinmabdkkddiaa", sum := "dbaa4e2b8ddf98244e235e22249aeddfd992e04201faf955f7d1949a8f8bfb59", func := "loop.example/pub-g01476/laws.FnDecoded", spec := "fnDecoded", apart := false, narrowed := true }
def FnDecodedUptoSaid : Prop := fnDecodedUptoRow.holds Try.pinned (OpenSpec.upto fnDecodedSpec)

/-- 'laws.FnNoQuote', WHERE WHAT IT READS IS OF BULK AT MOST 1048576: true; the input reads as it did. -/
def fnNoQuoteUptoRow : OpenClaim := { program := "yteinmabdkkddiaa", sum := "dbaa4e2b8ddf98244e235e22249aeddfd992e04201faf955f7d1949a8f8bfb59", func := "loop.example/pub-g01476/laws.FnNoQuote", spec := "fnNoQuote", apart := false, narrowed := true }
def FnNoQuoteUptoSaid : Prop := fnNoQuoteUptoRow.holds Try.pinned (OpenSpec.upto fnNoQuoteSpec)

/-- 'laws.FnQuoteEntity', WHERE WHAT IT READS IS OF BULK AT MOST 1048576: true; the input reads as it did. -/
def fnQuoteEntityUptoRow : OpenClaim := { program := "yteinmabdkkddiaa", sum := "dbaa4e2b8ddf98244e235e22249aeddfd992e04201faf955f7d1949a8f8bfb59", func := "loop.example/pub-g01476/laws.FnQuoteEntity", spec := "fnQuoteEntity", apart := false, narrowed := true }
def FnQuoteEntityUptoSaid : Prop := fnQuoteEntityUptoRow.holds Try.pinned (OpenSpec.upto fnQuoteEntitySpec)

end Rows
end Go.Proofs.Yteinmabdkkddiaa
