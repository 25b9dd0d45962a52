/-
  NARROWER THAN 'FOR EVERY INPUT', by the rows' own cells (each row's printed sentence says how): FnHashText: laid.
  DERIVED. THE GIVEN ROWS OF THIS SEAT. 1 by the template 'for every input the law returns true; each argument reads behind the call as it read before'; 0 by the template 'total and deterministic' (their statements: YtdmkoggjnfhgfaaDoorTotals.lean).
  GIVEN WITH THE SEED: the statements are not yours to turn. If you find one false, say at which input.
  Laid BY PROGRAM, IN A SANDBOX (cutbox-rows.mjs): the forced cells as the released guide's own fill.sh prints them over the translation d98cce97f016303d… (all of the seat's roots in one cut). By AI agents, Wed Nov 11 2026. No macro, syntax, notation, axiom, sorry.
-/
import Derived.Test.YtdmkoggjnfhgfaaDoorChecked
import GoSem.Claim
import GoSem.ClaimJoined
import GoSem.ClaimMapViews
import Derived.JoinedTies
import Derived.KernelRfl
namespace Go.Proofs.YtdmkoggjnfhgfaaDoor
/- THE CELL 'sum', in the pinned program and in every row, IS THE sha256 OF THE DUMP (.gsa) THAT YtdmkoggjnfhgfaaDoorProg.lean LOADS. Nothing in Lean hashes anything: it is a label: what it is worth is what the hold of that sum in a sandbox is worth. -/
noncomputable def Tryd.pinned : Pinned := { name := "ytdmkoggjnfhgfaadoor", sum := "d98cce97f016303d6d5a38ccd6ef542958e26a06aac958d5cedb874b0799386a", checked := Tryd.checked }
namespace Rows
def none {H : Type} : Left H := { results := [], args := [] }

/- WHAT THE LISTED PACKAGE-LEVEL VARIABLES READ AS WHEN THE CALL BEGINS. Each datum BY PROGRAM (the guide's laid-datum.mjs) off the statement by which the dump's own 'gosem.cut.vars' lays the variable. In a bare row this is a premise. The card (YtdmkoggjnfhgfaaDoorCards.lean) ties it to the program's text. -/
def laid_loop_example_pub_g01476_pub_tdcss_Hash_table {H : Type} : DataW H := .agg [.lit (.int .u32 4361), .lit (.int .u32 11012), .lit (.int .u32 9733), .lit (.int .u32 2057), .lit (.int .u32 8), .lit (.int .u32 0), .lit (.int .u32 6408), .lit (.int .u32 8453)]
def laid_loop_example_pub_g01476_pub_tdhtml_Hash_table {H : Type} : DataW H := .agg [.lit (.int .u32 0), .lit (.int .u32 0), .lit (.int .u32 2566), .lit (.int .u32 3845), .lit (.int .u32 5125), .lit (.int .u32 1540), .lit (.int .u32 6), .lit (.int .u32 0), .lit (.int .u32 7171), .lit (.int .u32 9736), .lit (.int .u32 0), .lit (.int .u32 0), .lit (.int .u32 7939), .lit (.int .u32 0), .lit (.int .u32 8457), .lit (.int .u32 6403)]

/-- 'laws.FnHashText': WHATEVER THE INPUT: true; the input reads as it did. -/
def fnHashTextSpec : ChangeSpec := { name := "fnHashText", vars := ["loop.example/pub-g01476/pub/tdcss._Hash_table", "loop.example/pub-g01476/pub/tdhtml._Hash_table"], fn := fun _ => fun
  | [d, g1, g2] => { results := [.lit (.bool true)], args := [d], vars := [g1, g2] }
  | _ => none }
def fnHashTextRow : OpenClaim := { program := "ytdmkoggjnfhgfaadoor", sum := "d98cce97f016303d6d5a38ccd6ef542958e26a06aac958d5cedb874b0799386a", func := "loop.example/pub-g01476/laws.FnHashText", spec := "fnHashText", named := ["loop.example/pub-g01476/pub/tdcss._Hash_table", "loop.example/pub-g01476/pub/tdhtml._Hash_table"], apart := false, laid := [("loop.example/pub-g01476/pub/tdcss._Hash_table", laid_loop_example_pub_g01476_pub_tdcss_Hash_table), ("loop.example/pub-g01476/pub/tdhtml._Hash_table", laid_loop_example_pub_g01476_pub_tdhtml_Hash_table)] }
def FnHashTextSaid : Prop := fnHashTextRow.holds Tryd.pinned (OpenSpec.ofChange fnHashTextSpec)

/-- ITS FALSE NEIGHBOUR: 'it returns false'. Refute it at one input. -/
def fnHashTextWrong : ChangeSpec := { name := "fnHashText", vars := ["loop.example/pub-g01476/pub/tdcss._Hash_table", "loop.example/pub-g01476/pub/tdhtml._Hash_table"], fn := fun _ => fun
  | [d, g1, g2] => { results := [.lit (.bool false)], args := [d], vars := [g1, g2] }
  | _ => none }
def FnHashTextWrongFalsely : Prop := fnHashTextRow.holds Tryd.pinned (OpenSpec.ofChange fnHashTextWrong)

/- THE SECOND FORM. 'bulk': how many values and letters a reading holds, each counted each time it is reached (what is shared counts as often as it is met; a slice's spare places count too). A statement '..UptoSaid' is the law's where the arguments, and the package variables that the reading takes, are together of bulk at most 1048576: NARROWER than '..Said'. Prove '..Said' where nothing that the law and all that it calls make is longer than what came in: it says more and counts as full. Else prove '..UptoSaid'. A law counts once. -/
mutual
def uptoBulk {H : Type} : DataW H → Nat
  | .lit (.string bytes) => bytes.length + 1
  | .lit _ => 1
  | .nil => 1
  | .ptr d => uptoBulk d + 1
  | .slice elems spare => uptoBulkAll elems + uptoBulkAll spare + 1
  | .agg parts => uptoBulkAll parts + 1
  | .iface _ d => uptoBulk d + 1
  | .map entries => uptoBulkEntries entries + 1
  | .held _ => 1
def uptoBulkAll {H : Type} : List (DataW H) → Nat
  | [] => 0
  | d :: r => uptoBulk d + uptoBulkAll r
def uptoBulkEntries {H : Type} : List (Lit × DataW H) → Nat
  | [] => 0
  | x :: r => uptoBulkEntry x + uptoBulkEntries r
def uptoBulkEntry {H : Type} : Lit × DataW H → Nat
  | (.string bytes, d) => bytes.length + uptoBulk d + 1
  | (_, d) => uptoBulk d + 1
 end
def uptoSmall : (H : Type) → List (DataW H) → Bool := fun _ ds => decide (uptoBulkAll ds ≤ 1048576)
def OpenSpec.upto (s : _root_.Go.ChangeSpec) : _root_.Go.OpenSpec := { _root_.Go.OpenSpec.ofChange s with cond := some uptoSmall }

/-- 'laws.FnHashText', WHERE WHAT IT READS IS OF BULK AT MOST 1048576: true; the input reads as it did. -/
def fnHashTextUptoRow : OpenClaim := { program := "ytdmkoggjnfhgfaadoor", sum := "d98cce97f016303d6d5a38ccd6ef542958e26a06aac958d5cedb874b0799386a", func := "loop.example/pub-g01476/laws.FnHashText", spec := "fnHashText", named := ["loop.example/pub-g01476/pub/tdcss._Hash_table", "loop.example/pub-g01476/pub/tdhtml._Hash_table"], apart := false, laid := [("loop.example/pub-g01476/pub/tdcss._Hash_table", laid_loop_example_pub_g01476_pub_tdcss_Hash_table), ("loop.example/pub-g01476/pub/tdhtml._Hash_table", laid_loop_example_pub_g01476_pub_tdhtml_Hash_table)], narrowed := true }
def FnHashTextUptoSaid : Prop := fnHashTextUptoRow.holds Tryd.pinned (OpenSpec.upto fnHashTextSpec)

end Rows
end Go.Proofs.YtdmkoggjnfhgfaaDoor
