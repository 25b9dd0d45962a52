/-
  No cell of these rows narrows 'for every input' (looked for: loops, veiled, ifaces, maps, wideKeys, modest, calm, conditions, laid).
  DERIVED. THE GIVEN ROWS OF THIS SEAT. 6 by the template 'for every input the law returns true; each argument reads behind the call as it read before'; 0 by the template 'total and deterministic' (their statements: YthepcaeamefjdaaTotals.lean).
  GIVEN WITH THE SEED: the statements are not yours to turn. If you find one false, say at which input.
  Laid BY PROGRAM, IN A SANDBOX (cutbox-rows.mjs): the forced cells as the released guide's own fill.sh prints them over the translation 988b733f8e20a045… (all of the seat's roots in one cut). By AI agents, Wed Nov 11 2026. No macro, syntax, notation, axiom, sorry.
-/
import Derived.Test.YthepcaeamefjdaaChecked
import GoSem.Claim
import GoSem.ClaimJoined
import GoSem.ClaimMapViews
import Derived.JoinedTies
import Derived.KernelRfl
namespace Go.Proofs.Ythepcaeamefjdaa
/- THE CELL 'sum', in the pinned program and in every row, IS THE sha256 OF THE DUMP (.gsa) THAT YthepcaeamefjdaaProg.lean LOADS. Nothing in Lean hashes anything: it is a label: what it is worth is what the hold of that sum in a sandbox is worth. -/
noncomputable def Try.pinned : Pinned := { name := "ythepcaeamefjdaa", sum := "988b733f8e20a04564bdbc9b372f62bc9b6d79f84133970eee5c331a810796cc", checked := Try.checked }
namespace Rows
def none {H : Type} : Left H := { results := [], args := [] }

/-- 'laws.FnParseUint': WHATEVER THE INPUT: true; the input reads as it did. -/
def fnParseUintSpec : ChangeSpec := { name := "fnParseUint", fn := fun _ => fun
  | [d1, d2] => { results := [.lit (.bool true)], args := [d1, d2] }
  | _ => none }
def fnParseUintRow : OpenClaim := { program := "ythepcaeamefjdaa", sum := "988b733f8e20a04564bdbc9b372f62bc9b6d79f84133970eee5c331a810796cc", func := "loop.example/pub-g01476/laws.FnParseUint", spec := "fnParseUint", apart := false }
def FnParseUintSaid : Prop := fnParseUintRow.holds Try.pinned (OpenSpec.ofChange fnParseUintSpec)

/-- ITS FALSE NEIGHBOUR: 'it returns false'. Refute it at one input. -/
def fnParseUintWrong : ChangeSpec := { name := "fnParseUint", fn := fun _ => fun
  | [d1, d2] => { results := [.lit (.bool false)], args := [d1, d2] }
  | _ => none }
def FnParseUintWrongFalsely : Prop := fnParseUintRow.holds Try.pinned (OpenSpec.ofChange fnParseUintWrong)

/-- 'laws.FnParseInt': WHATEVER THE INPUT: true; the input reads as it did. -/
def fnParseIntSpec : ChangeSpec := { name := "fnParseInt", fn := fun _ => fun
  | [d1, d2] => { results := [.lit (.bool true)], args := [d1, d2] }
  | _ => none }
def fnParseIntRow : OpenClaim := { program := "ythepcaeamefjdaa", sum := "988b733f8e20a04564bdbc9b372f62bc9b6d79f84133970eee5c331a810796cc", func := "loop.example/pub-g01476/laws.FnParseInt", spec := "fnParseInt", apart := false }
def FnParseIntSaid : Prop := fnParseIntRow.holds Try.pinned (OpenSpec.ofChange fnParseIntSpec)

/-- ITS FALSE NEIGHBOUR: 'it returns false'. Refute it at one input. -/
def fnParseIntWrong : ChangeSpec := { name := "fnParseInt", fn := fun _ => fun
  | [d1, d2] => { results := [.lit (.bool false)], args := [d1, d2] }
  | _ => none }
def FnParseIntWrongFalsely : Prop := fnParseIntRow.holds Try.pinned (OpenSpec.ofChange fnParseIntWrong)

/-- 'laws.FnLenUint': WHATEVER THE INPUT: true; the input reads as it did. -/
def fnLenUintSpec : ChangeSpec := { name := "fnLenUint", fn := fun _ => fun
  | [d] => { results := [.lit (.bool true)], args := [d] }
  | _ => none }
def fnLenUintRow : OpenClaim := { program := "ythepcaeamefjdaa", sum := "988b733f8e20a04564bdbc9b372f62bc9b6d79f84133970eee5c331a810796cc", func := "loop.example/pub-g01476/laws.FnLenUint", spec := "fnLenUint", apart := false }
def FnLenUintSaid : Prop := fnLenUintRow.holds Try.pinned (OpenSpec.ofChange fnLenUintSpec)

/-- ITS FALSE NEIGHBOUR: 'it returns false'. Refute it at one input. -/
def fnLenUintWrong : ChangeSpec := { name := "fnLenUint", fn := fun _ => fun
  | [d] => { results := [.lit (.bool false)], args := [d] }
  | _ => none }
def FnLenUintWrongFalsely : Prop := fnLenUintRow.holds Try.pinned (OpenSpec.ofChange fnLenUintWrong)

/-- 'laws.FnLenInt': WHATEVER THE INPUT: true; the input reads as it did. -/
def fnLenIntSpec : ChangeSpec := { name := "fnLenInt", fn := fun _ => fun
  | [d] => { results := [.lit (.bool true)], args := [d] }
  | _ => none }
def fnLenIntRow : OpenClaim := { program := "ythepcaeamefjdaa", sum := "988b733f8e20a04564bdbc9b372f62bc9b6d79f84133970eee5c331a810796cc", func := "loop.example/pub-g01476/laws.FnLenInt", spec := "fnLenInt", apart := false }
def FnLenIntSaid : Prop := fnLenIntRow.holds Try.pinned (OpenSpec.ofChange fnLenIntSpec)

/-- ITS FALSE NEIGHBOUR: 'it returns false'. Refute it at one input. -/
def fnLenIntWrong : ChangeSpec := { name := "fnLenInt", fn := fun _ => fun
  | [d] => { results := [.lit (.bool false)], args := [d] }
  | _ => none }
def FnLenIntWrongFalsely : Prop := fnLenIntRow.holds Try.pinned (OpenSpec.ofChange fnLenIntWrong)

/-- 'laws.FnAppendInt': WHATEVER THE INPUT: true; the input reads as it did. -/
def fnAppendIntSpec : ChangeSpec := { name := "fnAppendInt", fn := fun _ => fun
  | [d1, d2] => { results := [.lit (.bool true)], args := [d1, d2] }
  | _ => none }
def fnAppendIntRow : OpenClaim := { program := "ythepcaeamefjdaa", sum := "988b733f8e20a04564bdbc9b372f62bc9b6d79f84133970eee5c331a810796cc", func := "loop.example/pub-g01476/laws.FnAppendInt", spec := "fnAppendInt", apart := false }
def FnAppendIntSaid : Prop := fnAppendIntRow.holds Try.pinned (OpenSpec.ofChange fnAppendIntSpec)

/-- ITS FALSE NEIGHBOUR: 'it returns false'. Refute it at one input. -/
def fnAppendIntWrong : ChangeSpec := { name := "fnAppendInt", fn := fun _ => fun
  | [d1, d2] => { results := [.lit (.bool false)], args := [d1, d2] }
  | _ => none }
def FnAppendIntWrongFalsely : Prop := fnAppendIntRow.holds Try.pinned (OpenSpec.ofChange fnAppendIntWrong)

/-- 'laws.FnAppendNumber': WHATEVER THE INPUT: true; the input reads as it did. -/
def fnAppendNumberSpec : ChangeSpec := { name := "fnAppendNumber", fn := fun _ => fun
  | [d1, d2, d3, d4] => { results := [.lit (.bool true)], args := [d1, d2, d3, d4] }
  | _ => none }
def fnAppendNumberRow : OpenClaim := { program := "ythepcaeamefjdaa", sum := "988b733f8e20a04564bdbc9b372f62bc9b6d79f84133970eee5c331a810796cc", func := "loop.example/pub-g01476/laws.FnAppendNumber", spec := "fnAppendNumber", apart := false }
def FnAppendNumberSaid : Prop := fnAppendNumberRow.holds Try.pinned (OpenSpec.ofChange fnAppendNumberSpec)

/-- ITS FALSE NEIGHBOUR: 'it returns false'. Refute it at one input. -/
def fnAppendNumberWrong : ChangeSpec := { name := "fnAppendNumber", fn := fun _ => fun
  | [d1, d2, d3, d4] => { results := [.lit (.bool false)], args := [d1, d2, d3, d4] }
  | _ => none }
def FnAppendNumberWrongFalsely : Prop := fnAppendNumberRow.holds Try.pinned (OpenSpec.ofChange fnAppendNumberWrong)

/- THE SECOND FORM. 'bulk': how many values and letters a reading holds, each counted each time it is reached (what is shared counts as often as it is met; a slice's spare places count too). A statement '..UptoSaid' is the law's where the arguments, and the package variables that the reading takes, are together of bulk at most 1048576: NARROWER than '..Said'. Prove '..Said' where nothing that the law and all that it calls make is longer than what came in: it says more and counts as full. Else prove '..UptoSaid'. A law counts once. -/
mutual
def uptoBulk {H : Type} : DataW H → Nat
  | .lit (.string bytes) => bytes.length + 1
  | .lit _ => 1
  | .nil => 1
  | .ptr d => uptoBulk d + 1
  | .slice elems spare => uptoBulkAll elems + uptoBulkAll spare + 1
  | .agg parts => uptoBulkAll parts + 1
  | .iface _ d => uptoBulk d + 1
  | .map entries => uptoBulkEntries entries + 1
  | .held _ => 1
def uptoBulkAll {H : Type} : List (DataW H) → Nat
  | [] => 0
  | d :: r => uptoBulk d + uptoBulkAll r
def uptoBulkEntries {H : Type} : List (Lit × DataW H) → Nat
  | [] => 0
  | x :: r => uptoBulkEntry x + uptoBulkEntries r
def uptoBulkEntry {H : Type} : Lit × DataW H → Nat
  | (.string bytes, d) => bytes.length + uptoBulk d + 1
  | (_, d) => uptoBulk d + 1
 end
def uptoSmall : (H : Type) → List (DataW H) → Bool := fun _ ds => decide (uptoBulkAll ds ≤ 1048576)
def OpenSpec.upto (s : _root_.Go.ChangeSpec) : _root_.Go.OpenSpec := { _root_.Go.OpenSpec.ofChange s with cond := some uptoSmall }

/-- 'laws.FnParseUint', WHERE WHAT IT READS IS OF BULK AT MOST 1048576: true; the input reads as it did. -/
def fnParseUintUptoRow : OpenClaim := { program := "ythepcaeamefjdaa", sum := "988b733f8e20a04564bdbc9b372f62bc9b6d79f84133970eee5c331a810796cc", func := "loop.example/pub-g01476/laws.FnParseUint", spec := "fnParseUint", apart := false, narrowed := true }
def FnParseUintUptoSaid : Prop := fnParseUintUptoRow.holds Try.pinned (OpenSpec.upto fnParseUintSpec)

/-- 'laws.FnParseInt', WHERE WHAT IT READS IS OF BULK AT MOST 1048576: true; the input reads as it did. -/
def fnParseIntUptoRow : OpenClaim := { program := "ythepcaeamefjdaa", sum := "988b733f8e20a04564bdbc9b372f62bc9b6d79f84133970eee5c331a810796cc", func := "loop.example/pub-g01476/laws.FnParseInt", spec := "fnParseInt", apart := false, narrowed := true }
def FnParseIntUptoSaid : Prop := fnParseIntUptoRow.holds Try.pinned (OpenSpec.upto fnParseIntSpec)

/-- 'laws.FnLenUint', WHERE WHAT IT READS IS OF BULK AT MOST 1048576: true; the input reads as it did. -/
def fnLenUintUptoRow : OpenClaim := { program := "ythepcaeamefjdaa", sum := "988b733f8e20a04564bdbc9b372f62bc9b6d79f84133970eee5c331a810796cc", func := "loop.example/pub-g01476/laws.FnLenUint", spec := "fnLenUint", apart := false, narrowed := true }
def FnLenUintUptoSaid : Prop := fnLenUintUptoRow.holds Try.pinned (OpenSpec.upto fnLenUintSpec)

/-- 'laws.FnLenInt', WHERE WHAT IT READS IS OF BULK AT MOST 1048576: true; the input reads as it did. -/
def fnLenIntUptoRow : OpenClaim := { program := "ythepcaeamefjdaa", sum := "988b733f8e20a04564bdbc9b372f62bc9b6d79f84133970eee5c331a810796cc", func := "loop.example/pub-g01476/laws.FnLenInt", spec := "fnLenInt", apart := false, narrowed := true }
def FnLenIntUptoSaid : Prop := fnLenIntUptoRow.holds Try.pinned (OpenSpec.upto fnLenIntSpec)

/-- 'laws.FnAppendInt', WHERE WHAT IT READS IS OF BULK AT MOST 1048576: true; the input reads as it did. -/
def fnAppendIntUptoRow : OpenClaim := { program := "ythepcaeamefjdaa", sum := "988b733f8e20a04564bdbc9b372f62bc9b6d79f84133970eee5c331a810796cc", func := "loop.example/pub-g01476/laws.FnAppendInt", spec := "fnAppendInt", apart := false, narrowed := true }
def FnAppendIntUptoSaid : Prop := fnAppendIntUptoRow.holds Try.pinned (OpenSpec.upto fnAppendIntSpec)

/-- 'laws.FnAppendNumber', WHERE WHAT IT READS IS OF BULK AT MOST 1048576: true; the input reads as it did. -/
def fnAppendNumberUptoRow : OpenClaim := { program := "ythepcaeamefjdaa", sum := "988b733f8e20a04564bdbc9b372f62bc9b6d79f84133970eee5c331a810796cc", func := "loop.example/pub-g01476/laws.FnAppendNumber", spec := "fnAppendNumber", apart := false, narrowed := true }
def FnAppendNumberUptoSaid : Prop := fnAppendNumberUptoRow.holds Try.pinned (OpenSpec.upto fnAppendNumberSpec)

end Rows
end Go.Proofs.Ythepcaeamefjdaa
