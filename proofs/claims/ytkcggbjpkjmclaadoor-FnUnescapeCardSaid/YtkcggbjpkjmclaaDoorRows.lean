/-
  NARROWER THAN 'FOR EVERY INPUT', by the rows' own cells (each row's printed sentence says how): FnURL: laid · FnUnescape: laid.
  DERIVED. THE GIVEN ROWS OF THIS SEAT. 2 by the template 'for every input the law returns true; each argument reads behind the call as it read before'; 0 by the template 'total and deterministic' (their statements: YtkcggbjpkjmclaaDoorTotals.lean).
  GIVEN WITH THE SEED: the statements are not yours to turn. If you find one false, say at which input.
  Laid BY PROGRAM, IN A SANDBOX (cutbox-rows.mjs): the forced cells as the released guide's own fill.sh prints them over the translation 09e31da1317c251e… (all of the seat's roots in one cut). By AI agents, Wed Nov 11 2026. No macro, syntax, notation, axiom, sorry.
-/
import Derived.Test.YtkcggbjpkjmclaaDoorChecked
import GoSem.Claim
import GoSem.ClaimJoined
import GoSem.ClaimMapViews
import Derived.JoinedTies
import Derived.KernelRfl
namespace Go.Proofs.YtkcggbjpkjmclaaDoor
/- THE CELL 'sum', in the pinned program and in every row, IS THE sha256 OF THE DUMP (.gsa) THAT YtkcggbjpkjmclaaDoorProg.lean LOADS. Nothing in Lean hashes anything: it is a label: what it is worth is what the hold of that sum in a sandbox is worth. -/
noncomputable def Tryd.pinned : Pinned := { name := "ytkcggbjpkjmclaadoor", sum := "09e31da1317c251e0ce075dbc8474ba6a120c4bbbe925c9e3098f53fbe21d5bd", checked := Tryd.checked }
namespace Rows
def none {H : Type} : Left H := { results := [], args := [] }

/- WHAT THE LISTED PACKAGE-LEVEL VARIABLES READ AS WHEN THE CALL BEGINS. Each datum BY PROGRAM (the guide's laid-datum.mjs) off the statement by which the dump's own 'gosem.cut.vars' lays the variable. In a bare row this is a premise. The card (YtkcggbjpkjmclaaDoorCards.lean) ties it to the program's text. -/
def laid_margravel_pub_goldmark_util_urlTable {H : Type} : DataW H := .agg [.lit (.int .u8 0), .lit (.int .u8 0), .lit (.int .u8 0), .lit (.int .u8 0), .lit (.int .u8 0), .lit (.int .u8 0), .lit (.int .u8 0), .lit (.int .u8 0), .lit (.int .u8 0), .lit (.int .u8 0), .lit (.int .u8 0), .lit (.int .u8 0), .lit (.int .u8 0), .lit (.int .u8 0), .lit (.int .u8 0), .lit (.int .u8 0), .lit (.int .u8 0), .lit (.int .u8 0), .lit (.int .u8 0), .lit (.int .u8 0), .lit (.int .u8 0), .lit (.int .u8 0), .lit (.int .u8 0), .lit (.int .u8 0), .lit (.int .u8 0), .lit (.int .u8 0), .lit (.int .u8 0), .lit (.int .u8 0), .lit (.int .u8 0), .lit (.int .u8 0), .lit (.int .u8 0), .lit (.int .u8 0), .lit (.int .u8 0), .lit (.int .u8 1), .lit (.int .u8 1), .lit (.int .u8 1), .lit (.int .u8 1), .lit (.int .u8 1), .lit (.int .u8 1), .lit (.int .u8 1), .lit (.int .u8 1), .lit (.int .u8 1), .lit (.int .u8 1), .lit (.int .u8 5), .lit (.int .u8 1), .lit (.int .u8 5), .lit (.int .u8 5), .lit (.int .u8 1), .lit (.int .u8 5), .lit (.int .u8 5), .lit (.int .u8 5), .lit (.int .u8 5), .lit (.int .u8 5), .lit (.int .u8 5), .lit (.int .u8 5), .lit (.int .u8 5), .lit (.int .u8 5), .lit (.int .u8 5), .lit (.int .u8 1), .lit (.int .u8 1), .lit (.int .u8 0), .lit (.int .u8 1), .lit (.int .u8 0), .lit (.int .u8 1), .lit (.int .u8 1), .lit (.int .u8 7), .lit (.int .u8 7), .lit (.int .u8 7), .lit (.int .u8 7), .lit (.int .u8 7), .lit (.int .u8 7), .lit (.int .u8 7), .lit (.int .u8 7), .lit (.int .u8 7), .lit (.int .u8 7), .lit (.int .u8 7), .lit (.int .u8 7), .lit (.int .u8 7), .lit (.int .u8 7), .lit (.int .u8 7), .lit (.int .u8 7), .lit (.int .u8 7), .lit (.int .u8 7), .lit (.int .u8 7), .lit (.int .u8 7), .lit (.int .u8 7), .lit (.int .u8 7), .lit (.int .u8 7), .lit (.int .u8 7), .lit (.int .u8 7), .lit (.int .u8 7), .lit (.int .u8 1), .lit (.int .u8 1), .lit (.int .u8 1), .lit (.int .u8 1), .lit (.int .u8 1), .lit (.int .u8 1), .lit (.int .u8 7), .lit (.int .u8 7), .lit (.int .u8 7), .lit (.int .u8 7), .lit (.int .u8 7), .lit (.int .u8 7), .lit (.int .u8 7), .lit (.int .u8 7), .lit (.int .u8 7), .lit (.int .u8 7), .lit (.int .u8 7), .lit (.int .u8 7), .lit (.int .u8 7), .lit (.int .u8 7), .lit (.int .u8 7), .lit (.int .u8 7), .lit (.int .u8 7), .lit (.int .u8 7), .lit (.int .u8 7), .lit (.int .u8 7), .lit (.int .u8 7), .lit (.int .u8 7), .lit (.int .u8 7), .lit (.int .u8 7), .lit (.int .u8 7), .lit (.int .u8 7), .lit (.int .u8 1), .lit (.int .u8 1), .lit (.int .u8 1), .lit (.int .u8 1), .lit (.int .u8 1), .lit (.int .u8 1), .lit (.int .u8 1), .lit (.int .u8 1), .lit (.int .u8 1), .lit (.int .u8 1), .lit (.int .u8 1), .lit (.int .u8 1), .lit (.int .u8 1), .lit (.int .u8 1), .lit (.int .u8 1), .lit (.int .u8 1), .lit (.int .u8 1), .lit (.int .u8 1), .lit (.int .u8 1), .lit (.int .u8 1), .lit (.int .u8 1), .lit (.int .u8 1), .lit (.int .u8 1), .lit (.int .u8 1), .lit (.int .u8 1), .lit (.int .u8 1), .lit (.int .u8 1), .lit (.int .u8 1), .lit (.int .u8 1), .lit (.int .u8 1), .lit (.int .u8 1), .lit (.int .u8 1), .lit (.int .u8 1), .lit (.int .u8 1), .lit (.int .u8 1), .lit (.int .u8 1), .lit (.int .u8 1), .lit (.int .u8 1), .lit (.int .u8 1), .lit (.int .u8 1), .lit (.int .u8 1), .lit (.int .u8 1), .lit (.int .u8 1), .lit (.int .u8 1), .lit (.int .u8 1), .lit (.int .u8 1), .lit (.int .u8 1), .lit (.int .u8 1), .lit (.int .u8 1), .lit (.int .u8 1), .lit (.int .u8 1), .lit (.int .u8 1), .lit (.int .u8 1), .lit (.int .u8 1), .lit (.int .u8 1), .lit (.int .u8 1), .lit (.int .u8 1), .lit (.int .u8 1), .lit (.int .u8 1), .lit (.int .u8 1), .lit (.int .u8 1), .lit (.int .u8 1), .lit (.int .u8 1), .lit (.int .u8 1), .lit (.int .u8 1), .lit (.int .u8 1), .lit (.int .u8 1), .lit (.int .u8 1), .lit (.int .u8 1), .lit (.int .u8 1), .lit (.int .u8 1), .lit (.int .u8 1), .lit (.int .u8 1), .lit (.int .u8 1), .lit (.int .u8 1), .lit (.int .u8 1), .lit (.int .u8 1), .lit (.int .u8 1), .lit (.int .u8 1), .lit (.int .u8 1), .lit (.int .u8 1), .lit (.int .u8 1), .lit (.int .u8 1), .lit (.int .u8 1), .lit (.int .u8 1), .lit (.int .u8 1), .lit (.int .u8 1), .lit (.int .u8 1), .lit (.int .u8 1), .lit (.int .u8 1), .lit (.int .u8 1), .lit (.int .u8 1), .lit (.int .u8 1), .lit (.int .u8 1), .lit (.int .u8 1), .lit (.int .u8 1), .lit (.int .u8 1), .lit (.int .u8 1), .lit (.int .u8 1), .lit (.int .u8 1), .lit (.int .u8 1), .lit (.int .u8 1), .lit (.int .u8 1), .lit (.int .u8 1), .lit (.int .u8 1), .lit (.int .u8 1), .lit (.int .u8 1), .lit (.int .u8 1), .lit (.int .u8 1), .lit (.int .u8 1), .lit (.int .u8 1), .lit (.int .u8 1), .lit (.int .u8 1), .lit (.int .u8 1), .lit (.int .u8 1), .lit (.int .u8 1), .lit (.int .u8 1), .lit (.int .u8 1), .lit (.int .u8 1), .lit (.int .u8 1), .lit (.int .u8 1), .lit (.int .u8 1), .lit (.int .u8 1), .lit (.int .u8 1), .lit (.int .u8 1), .lit (.int .u8 1), .lit (.int .u8 1), .lit (.int .u8 1), .lit (.int .u8 1), .lit (.int .u8 1), .lit (.int .u8 1), .lit (.int .u8 1), .lit (.int .u8 1)]
def laid_margravel_pub_goldmark_util_punctTable {H : Type} : DataW H := .agg [.lit (.int .i8 0), .lit (.int .i8 0), .lit (.int .i8 0), .lit (.int .i8 0), .lit (.int .i8 0), .lit (.int .i8 0), .lit (.int .i8 0), .lit (.int .i8 0), .lit (.int .i8 0), .lit (.int .i8 0), .lit (.int .i8 0), .lit (.int .i8 0), .lit (.int .i8 0), .lit (.int .i8 0), .lit (.int .i8 0), .lit (.int .i8 0), .lit (.int .i8 0), .lit (.int .i8 0), .lit (.int .i8 0), .lit (.int .i8 0), .lit (.int .i8 0), .lit (.int .i8 0), .lit (.int .i8 0), .lit (.int .i8 0), .lit (.int .i8 0), .lit (.int .i8 0), .lit (.int .i8 0), .lit (.int .i8 0), .lit (.int .i8 0), .lit (.int .i8 0), .lit (.int .i8 0), .lit (.int .i8 0), .lit (.int .i8 0), .lit (.int .i8 1), .lit (.int .i8 1), .lit (.int .i8 1), .lit (.int .i8 1), .lit (.int .i8 1), .lit (.int .i8 1), .lit (.int .i8 1), .lit (.int .i8 1), .lit (.int .i8 1), .lit (.int .i8 1), .lit (.int .i8 1), .lit (.int .i8 1), .lit (.int .i8 1), .lit (.int .i8 1), .lit (.int .i8 1), .lit (.int .i8 0), .lit (.int .i8 0), .lit (.int .i8 0), .lit (.int .i8 0), .lit (.int .i8 0), .lit (.int .i8 0), .lit (.int .i8 0), .lit (.int .i8 0), .lit (.int .i8 0), .lit (.int .i8 0), .lit (.int .i8 1), .lit (.int .i8 1), .lit (.int .i8 1), .lit (.int .i8 1), .lit (.int .i8 1), .lit (.int .i8 1), .lit (.int .i8 1), .lit (.int .i8 0), .lit (.int .i8 0), .lit (.int .i8 0), .lit (.int .i8 0), .lit (.int .i8 0), .lit (.int .i8 0), .lit (.int .i8 0), .lit (.int .i8 0), .lit (.int .i8 0), .lit (.int .i8 0), .lit (.int .i8 0), .lit (.int .i8 0), .lit (.int .i8 0), .lit (.int .i8 0), .lit (.int .i8 0), .lit (.int .i8 0), .lit (.int .i8 0), .lit (.int .i8 0), .lit (.int .i8 0), .lit (.int .i8 0), .lit (.int .i8 0), .lit (.int .i8 0), .lit (.int .i8 0), .lit (.int .i8 0), .lit (.int .i8 0), .lit (.int .i8 0), .lit (.int .i8 1), .lit (.int .i8 1), .lit (.int .i8 1), .lit (.int .i8 1), .lit (.int .i8 1), .lit (.int .i8 1), .lit (.int .i8 0), .lit (.int .i8 0), .lit (.int .i8 0), .lit (.int .i8 0), .lit (.int .i8 0), .lit (.int .i8 0), .lit (.int .i8 0), .lit (.int .i8 0), .lit (.int .i8 0), .lit (.int .i8 0), .lit (.int .i8 0), .lit (.int .i8 0), .lit (.int .i8 0), .lit (.int .i8 0), .lit (.int .i8 0), .lit (.int .i8 0), .lit (.int .i8 0), .lit (.int .i8 0), .lit (.int .i8 0), .lit (.int .i8 0), .lit (.int .i8 0), .lit (.int .i8 0), .lit (.int .i8 0), .lit (.int .i8 0), .lit (.int .i8 0), .lit (.int .i8 0), .lit (.int .i8 1), .lit (.int .i8 1), .lit (.int .i8 1), .lit (.int .i8 1), .lit (.int .i8 0), .lit (.int .i8 0), .lit (.int .i8 0), .lit (.int .i8 0), .lit (.int .i8 0), .lit (.int .i8 0), .lit (.int .i8 0), .lit (.int .i8 0), .lit (.int .i8 0), .lit (.int .i8 0), .lit (.int .i8 0), .lit (.int .i8 0), .lit (.int .i8 0), .lit (.int .i8 0), .lit (.int .i8 0), .lit (.int .i8 0), .lit (.int .i8 0), .lit (.int .i8 0), .lit (.int .i8 0), .lit (.int .i8 0), .lit (.int .i8 0), .lit (.int .i8 0), .lit (.int .i8 0), .lit (.int .i8 0), .lit (.int .i8 0), .lit (.int .i8 0), .lit (.int .i8 0), .lit (.int .i8 0), .lit (.int .i8 0), .lit (.int .i8 0), .lit (.int .i8 0), .lit (.int .i8 0), .lit (.int .i8 0), .lit (.int .i8 0), .lit (.int .i8 0), .lit (.int .i8 0), .lit (.int .i8 0), .lit (.int .i8 0), .lit (.int .i8 0), .lit (.int .i8 0), .lit (.int .i8 0), .lit (.int .i8 0), .lit (.int .i8 0), .lit (.int .i8 0), .lit (.int .i8 0), .lit (.int .i8 0), .lit (.int .i8 0), .lit (.int .i8 0), .lit (.int .i8 0), .lit (.int .i8 0), .lit (.int .i8 0), .lit (.int .i8 0), .lit (.int .i8 0), .lit (.int .i8 0), .lit (.int .i8 0), .lit (.int .i8 0), .lit (.int .i8 0), .lit (.int .i8 0), .lit (.int .i8 0), .lit (.int .i8 0), .lit (.int .i8 0), .lit (.int .i8 0), .lit (.int .i8 0), .lit (.int .i8 0), .lit (.int .i8 0), .lit (.int .i8 0), .lit (.int .i8 0), .lit (.int .i8 0), .lit (.int .i8 0), .lit (.int .i8 0), .lit (.int .i8 0), .lit (.int .i8 0), .lit (.int .i8 0), .lit (.int .i8 0), .lit (.int .i8 0), .lit (.int .i8 0), .lit (.int .i8 0), .lit (.int .i8 0), .lit (.int .i8 0), .lit (.int .i8 0), .lit (.int .i8 0), .lit (.int .i8 0), .lit (.int .i8 0), .lit (.int .i8 0), .lit (.int .i8 0), .lit (.int .i8 0), .lit (.int .i8 0), .lit (.int .i8 0), .lit (.int .i8 0), .lit (.int .i8 0), .lit (.int .i8 0), .lit (.int .i8 0), .lit (.int .i8 0), .lit (.int .i8 0), .lit (.int .i8 0), .lit (.int .i8 0), .lit (.int .i8 0), .lit (.int .i8 0), .lit (.int .i8 0), .lit (.int .i8 0), .lit (.int .i8 0), .lit (.int .i8 0), .lit (.int .i8 0), .lit (.int .i8 0), .lit (.int .i8 0), .lit (.int .i8 0), .lit (.int .i8 0), .lit (.int .i8 0), .lit (.int .i8 0), .lit (.int .i8 0), .lit (.int .i8 0), .lit (.int .i8 0), .lit (.int .i8 0), .lit (.int .i8 0), .lit (.int .i8 0), .lit (.int .i8 0), .lit (.int .i8 0), .lit (.int .i8 0), .lit (.int .i8 0), .lit (.int .i8 0), .lit (.int .i8 0), .lit (.int .i8 0), .lit (.int .i8 0), .lit (.int .i8 0), .lit (.int .i8 0), .lit (.int .i8 0), .lit (.int .i8 0), .lit (.int .i8 0), .lit (.int .i8 0)]

/-- 'laws.FnURL': WHATEVER THE INPUT: true; the input reads as it did. -/
def fnURLSpec : ChangeSpec := { name := "fnURL", fn := fun _ => fun
  | [d] => { results := [.lit (.bool true)], args := [d] }
  | _ => none }
def fnURLRow : OpenClaim := { program := "ytkcggbjpkjmclaadoor", sum := "09e31da1317c251e0ce075dbc8474ba6a120c4bbbe925c9e3098f53fbe21d5bd", func := "margravel/laws.FnURL", spec := "fnURL", named := ["margravel/pub/goldmark/util.urlTable"], apart := false, laid := [("margravel/pub/goldmark/util.urlTable", laid_margravel_pub_goldmark_util_urlTable)] }
def FnURLSaid : Prop := fnURLRow.holds Tryd.pinned (OpenSpec.ofChange fnURLSpec)

/-- ITS FALSE NEIGHBOUR: 'it returns false'. Refute it at one input. -/
def fnURLWrong : ChangeSpec := { name := "fnURL", fn := fun _ => fun
  | [d] => { results := [.lit (.bool false)], args := [d] }
  | _ => none }
def FnURLWrongFalsely : Prop := fnURLRow.holds Tryd.pinned (OpenSpec.ofChange fnURLWrong)

/-- 'laws.FnUnescape': WHATEVER THE INPUT: true; the input reads as it did. -/
def fnUnescapeSpec : ChangeSpec := { name := "fnUnescape", fn := fun _ => fun
  | [d] => { results := [.lit (.bool true)], args := [d] }
  | _ => none }
def fnUnescapeRow : OpenClaim := { program := "ytkcggbjpkjmclaadoor", sum := "09e31da1317c251e0ce075dbc8474ba6a120c4bbbe925c9e3098f53fbe21d5bd", func := "margravel/laws.FnUnescape", spec := "fnUnescape", named := ["margravel/pub/goldmark/util.punctTable"], apart := false, laid := [("margravel/pub/goldmark/util.punctTable", laid_margravel_pub_goldmark_util_punctTable)] }
def FnUnescapeSaid : Prop := fnUnescapeRow.holds Tryd.pinned (OpenSpec.ofChange fnUnescapeSpec)

/-- ITS FALSE NEIGHBOUR: 'it returns false'. Refute it at one input. -/
def fnUnescapeWrong : ChangeSpec := { name := "fnUnescape", fn := fun _ => fun
  | [d] => { results := [.lit (.bool false)], args := [d] }
  | _ => none }
def FnUnescapeWrongFalsely : Prop := fnUnescapeRow.holds Tryd.pinned (OpenSpec.ofChange fnUnescapeWrong)

/- THE SECOND FORM. 'bulk': how many values and letters a reading holds, each counted each time it is reached (what is shared counts as often as it is met; a slice's spare places count too). A statement '..UptoSaid' is the law's where the arguments, and the package variables that the reading takes, are together of bulk at most 1048576: NARROWER than '..Said'. Prove '..Said' where nothing that the law and all that it calls make is longer than what came in: it says more and counts as full. Else prove '..UptoSaid'. A law counts once. -/
mutual
def uptoBulk {H : Type} : DataW H → Nat
  | .lit (.string bytes) => bytes.length + 1
  | .lit _ => 1
  | .nil => 1
  | .ptr d => uptoBulk d + 1
  | .slice elems spare => uptoBulkAll elems + uptoBulkAll spare + 1
  | .agg parts => uptoBulkAll parts + 1
  | .iface _ d => uptoBulk d + 1
  | .map entries => uptoBulkEntries entries + 1
  | .held _ => 1
def uptoBulkAll {H : Type} : List (DataW H) → Nat
  | [] => 0
  | d :: r => uptoBulk d + uptoBulkAll r
def uptoBulkEntries {H : Type} : List (Lit × DataW H) → Nat
  | [] => 0
  | x :: r => uptoBulkEntry x + uptoBulkEntries r
def uptoBulkEntry {H : Type} : Lit × DataW H → Nat
  | (.string bytes, d) => bytes.length + uptoBulk d + 1
  | (_, d) => uptoBulk d + 1
 end
def uptoSmall : (H : Type) → List (DataW H) → Bool := fun _ ds => decide (uptoBulkAll ds ≤ 1048576)
def OpenSpec.upto (s : _root_.Go.ChangeSpec) : _root_.Go.OpenSpec := { _root_.Go.OpenSpec.ofChange s with cond := some uptoSmall }

/-- 'laws.FnURL', WHERE WHAT IT READS IS OF BULK AT MOST 1048576: true; the input reads as it did. -/
def fnURLUptoRow : OpenClaim := { program := "ytkcggbjpkjmclaadoor", sum := "09e31da1317c251e0ce075dbc8474ba6a120c4bbbe925c9e3098f53fbe21d5bd", func := "margravel/laws.FnURL", spec := "fnURL", named := ["margravel/pub/goldmark/util.urlTable"], apart := false, laid := [("margravel/pub/goldmark/util.urlTable", laid_margravel_pub_goldmark_util_urlTable)], narrowed := true }
def FnURLUptoSaid : Prop := fnURLUptoRow.holds Tryd.pinned (OpenSpec.upto fnURLSpec)

/-- 'laws.FnUnescape', WHERE WHAT IT READS IS OF BULK AT MOST 1048576: true; the input reads as it did. -/
def fnUnescapeUptoRow : OpenClaim := { program := "ytkcggbjpkjmclaadoor", sum := "09e31da1317c251e0ce075dbc8474ba6a120c4bbbe925c9e3098f53fbe21d5bd", func := "margravel/laws.FnUnescape", spec := "fnUnescape", named := ["margravel/pub/goldmark/util.punctTable"], apart := false, laid := [("margravel/pub/goldmark/util.punctTable", laid_margravel_pub_goldmark_util_punctTable)], narrowed := true }
def FnUnescapeUptoSaid : Prop := fnUnescapeUptoRow.holds Tryd.pinned (OpenSpec.upto fnUnescapeSpec)

end Rows
end Go.Proofs.YtkcggbjpkjmclaaDoor
