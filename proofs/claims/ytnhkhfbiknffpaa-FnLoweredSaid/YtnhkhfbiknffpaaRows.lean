/-
  No cell of these rows narrows 'for every input' (looked for: loops, veiled, ifaces, maps, wideKeys, modest, calm, conditions, laid).
  DERIVED. THE GIVEN ROWS OF THIS SEAT. 3 by the template 'for every input the law returns true; each argument reads behind the call as it read before'; 0 by the template 'total and deterministic' (their statements: YtnhkhfbiknffpaaTotals.lean).
  GIVEN WITH THE SEED: the statements are not yours to turn. If you find one false, say at which input.
  Laid BY PROGRAM, IN A SANDBOX (cutbox-rows.mjs): the forced cells as the released guide's own fill.sh prints them over the translation 666e8b19c72c7cee… (all of the seat's roots in one cut). By AI agents, Wed Nov 11 2026. No macro, syntax, notation, axiom, sorry.
-/
import Derived.Test.YtnhkhfbiknffpaaChecked
import GoSem.Claim
import GoSem.ClaimJoined
import GoSem.ClaimMapViews
import Derived.JoinedTies
import Derived.KernelRfl
namespace Go.Proofs.Ytnhkhfbiknffpaa
/- THE CELL 'sum', in the pinned program and in every row, IS THE sha256 OF THE DUMP (.gsa) THAT YtnhkhfbiknffpaaProg.lean LOADS. Nothing in Lean hashes anything: it is a label: what it is worth is what the hold of that sum in a sandbox is worth. -/
noncomputable def Try.pinned : Pinned := { name := "ytnhkhfbiknffpaa", sum := "666e8b19c72c7cee172ceaec778f6db026d61f81802fd2dca34672596ce0bc6c", checked := Try.checked }
namespace Rows
def none {H : Type} : Left H := { results := [], args := [] }

/-- 'laws.FnCopied': WHATEVER THE INPUT: true; the input reads as it did. -/
def fnCopiedSpec : ChangeSpec := { name := "fnCopied", fn := fun _ => fun
  | [d] => { results := [.lit (.bool true)], args := [d] }
  | _ => none }
def fnCopiedRow : OpenClaim := { program := "ytnhkhfbiknffpaa", sum := "666e8b19c72c7cee172ceaec778f6db026d61f81802fd2dca34672596ce0bc6c", func := "loop.example/pub-g01476/laws.FnCopied", spec := "fnCopied", apart := false }
def FnCopiedSaid : Prop := fnCopiedRow.holds Try.pinned (OpenSpec.ofChange fnCopiedSpec)

/-- ITS FALSE NEIGHBOUR: 'it returns false'. Refute it at one input. -/
def fnCopiedWrong : ChangeSpec := { name := "fnCopied", fn := fun _ => fun
  | [d] => { results := [.lit (.bool false)], args := [d] }
  | _ => none }
def FnCopiedWrongFalsely : Prop := fnCopiedRow.holds Try.pinned (OpenSpec.ofChange fnCopiedWrong)

/-- 'laws.FnFold': WHATEVER THE INPUT: true; the input reads as it did. -/
def fnFoldSpec : ChangeSpec := { name := "fnFold", fn := fun _ => fun
  | [d1, d2] => { results := [.lit (.bool true)], args := [d1, d2] }
  | _ => none }
def fnFoldRow : OpenClaim := { program := "ytnhkhfbiknffpaa", sum := "666e8b19c72c7cee172ceaec778f6db026d61f81802fd2dca34672596ce0bc6c", func := "loop.example/pub-g01476/laws.FnFold", spec := "fnFold", apart := false }
def FnFoldSaid : Prop := fnFoldRow.holds Try.pinned (OpenSpec.ofChange fnFoldSpec)

/-- ITS FALSE NEIGHBOUR: 'it returns false'. Refute it at one input. -/
def fnFoldWrong : ChangeSpec := { name := "fnFold", fn := fun _ => fun
  | [d1, d2] => { results := [.lit (.bool false)], args := [d1, d2] }
  | _ => none }
def FnFoldWrongFalsely : Prop := fnFoldRow.holds Try.pinned (OpenSpec.ofChange fnFoldWrong)

/-- 'laws.FnLowered': WHATEVER THE INPUT: true; the input reads as it did. -/
def fnLoweredSpec : ChangeSpec := { name := "fnLowered", fn := fun _ => fun
  | [d] => { results := [.lit (.bool true)], args := [d] }
  | _ => none }
def fnLoweredRow : OpenClaim := { program := "ytnhkhfbiknffpaa", sum := "666e8b19c72c7cee172ceaec778f6db026d61f81802fd2dca34672596ce0bc6c", func := "loop.example/pub-g01476/laws.FnLowered", spec := "fnLowered", apart := false }
def FnLoweredSaid : Prop := fnLoweredRow.holds Try.pinned (OpenSpec.ofChange fnLoweredSpec)

/-- ITS FALSE NEIGHBOUR: 'it returns false'. Refute it at one input. -/
def fnLoweredWrong : ChangeSpec := { name := "fnLowered", fn := fun _ => fun
  | [d] => { results := [.lit (.bool false)], args := [d] }
  | _ => none }
def FnLoweredWrongFalsely : Prop := fnLoweredRow.holds Try.pinned (OpenSpec.ofChange fnLoweredWrong)

/- THE SECOND FORM. 'bulk': how many values and letters a reading holds, each counted each time it is reached (what is shared counts as often as it is met; a slice's spare places count too). A statement '..UptoSaid' is the law's where the arguments, and the package variables that the reading takes, are together of bulk at most 1048576: NARROWER than '..Said'. Prove '..Said' where nothing that the law and all that it calls make is longer than what came in: it says more and counts as full. Else prove '..UptoSaid'. A law counts once. -/
mutual
def uptoBulk {H : Type} : DataW H → Nat
  | .lit (.string bytes) => bytes.length + 1
  | .lit _ => 1
  | .nil => 1
  | .ptr d => uptoBulk d + 1
  | .slice elems spare => uptoBulkAll elems + uptoBulkAll spare + 1
  | .agg parts => uptoBulkAll parts + 1
  | .iface _ d => uptoBulk d + 1
  | .map entries => uptoBulkEntries entries + 1
  | .held _ => 1
def uptoBulkAll {H : Type} : List (DataW H) → Nat
  | [] => 0
  | d :: r => uptoBulk d + uptoBulkAll r
def uptoBulkEntries {H : Type} : List (Lit × DataW H) → Nat
  | [] => 0
  | x :: r => uptoBulkEntry x + uptoBulkEntries r
def uptoBulkEntry {H : Type} : Lit × DataW H → Nat
  | (.string bytes, d) => bytes.length + uptoBulk d + 1
  | (_, d) => uptoBulk d + 1
 end
def uptoSmall : (H : Type) → List (DataW H) → Bool := fun _ ds => decide (uptoBulkAll ds ≤ 1048576)
def OpenSpec.upto (s : _root_.Go.ChangeSpec) : _root_.Go.OpenSpec := { _root_.Go.OpenSpec.ofChange s with cond := some uptoSmall }

/-- 'laws.FnCopied', WHERE WHAT IT READS IS OF BULK AT MOST 1048576: true; the input reads as it did. -/
def fnCopiedUptoRow : OpenClaim := { program := "ytnhkhfbiknffpaa", sum := "666e8b19c72c7cee172ceaec778f6db026d61f81802fd2dca34672596ce0bc6c", func := "loop.example/pub-g01476/laws.FnCopied", spec := "fnCopied", apart := false, narrowed := true }
def FnCopiedUptoSaid : Prop := fnCopiedUptoRow.holds Try.pinned (OpenSpec.upto fnCopiedSpec)

/-- 'laws.FnFold', WHERE WHAT IT READS IS OF BULK AT MOST 1048576: true; the input reads as it did. -/
def fnFoldUptoRow : OpenClaim := { program := "ytnhkhfbiknffpaa", sum := "666e8b19c72c7cee172ceaec778f6db026d61f81802fd2dca34672596ce0bc6c", func := "loop.example/pub-g01476/laws.FnFold", spec := "fnFold", apart := false, narrowed := true }
def FnFoldUptoSaid : Prop := fnFoldUptoRow.holds Try.pinned (OpenSpec.upto fnFoldSpec)

/-- 'laws.FnLowered', WHERE WHAT IT READS IS OF BULK AT MOST 1048576: true; the input reads as it did. -/
def fnLoweredUptoRow : OpenClaim := { program := "ytnhkhfbiknffpaa", sum := "666e8b19c72c7cee172ceaec778f6db026d61f81802fd2dca34672596ce0bc6c", func := "loop.example/pub-g01476/laws.FnLowered", spec := "fnLowered", apart := false, narrowed := true }
def FnLoweredUptoSaid : Prop := fnLoweredUptoRow.holds Try.pinned (OpenSpec.upto fnLoweredSpec)

end Rows
end Go.Proofs.Ytnhkhfbiknffpaa
