/-
  NARROWER THAN 'FOR EVERY INPUT', by the rows' own cells (each row's printed sentence says how): FnTokens: laid.
  DERIVED. THE GIVEN ROWS OF THIS SEAT. 1 by the template 'for every input the law returns true; each argument reads behind the call as it read before'; 0 by the template 'total and deterministic' (their statements: YthdeffbhpdcifaaDoorTotals.lean).
  GIVEN WITH THE SEED: the statements are not yours to turn. If you find one false, say at which input.
  Laid BY PROGRAM, IN A SANDBOX (cutbox-rows.mjs): the forced cells as the released guide's own fill.sh prints them over the translation 53d5de323b02897a… (all of the seat's roots in one cut). By AI agents, Wed Nov 11 2026. No macro, syntax, notation, axiom, sorry.
-/
import Derived.Test.YthdeffbhpdcifaaDoorChecked
import GoSem.Claim
import GoSem.ClaimJoined
import GoSem.ClaimMapViews
import Derived.JoinedTies
import Derived.KernelRfl
namespace Go.Proofs.YthdeffbhpdcifaaDoor
/- THE CELL 'sum', in the pinned program and in every row, IS THE sha256 OF THE DUMP (.gsa) THAT YthdeffbhpdcifaaDoorProg.lean LOADS. Nothing in Lean hashes anything: it is a label: what it is worth is what the hold of that sum in a sandbox is worth. -/
noncomputable def Tryd.pinned : Pinned := { name := "ythdeffbhpdcifaadoor", sum := "53d5de323b02897ae3462851f83a52a3bbffd9bcb10623abf7f975a1e8eecdbe", checked := Tryd.checked }
namespace Rows
def none {H : Type} : Left H := { results := [], args := [] }

/- WHAT THE LISTED PACKAGE-LEVEL VARIABLES READ AS WHEN THE CALL BEGINS. Each datum BY PROGRAM (the guide's laid-datum.mjs) off the statement by which the dump's own 'gosem.cut.vars' lays the variable. In a bare row this is a premise. The card (YthdeffbhpdcifaaDoorCards.lean) ties it to the program's text. -/
def laid_loop_example_pub_g03331_pub_starlark_syntax_tokenNames {H : Type} : DataW H := .agg [.lit (.string [105, 108, 108, 101, 103, 97, 108, 32, 116, 111, 107, 101, 110]), .lit (.string [101, 110, 100, 32, 111, 102, 32, 102, 105, 108, 101]), .lit (.string [110, 101, 119, 108, 105, 110, 101]), .lit (.string [105, 110, 100, 101, 110, 116]), .lit (.string [111, 117, 116, 100, 101, 110, 116]), .lit (.string [105, 100, 101, 110, 116, 105, 102, 105, 101, 114]), .lit (.string [105, 110, 116, 32, 108, 105, 116, 101, 114, 97, 108]), .lit (.string [102, 108, 111, 97, 116, 32, 108, 105, 116, 101, 114, 97, 108]), .lit (.string [115, 116, 114, 105, 110, 103, 32, 108, 105, 116, 101, 114, 97, 108]), .lit (.string []), .lit (.string [43]), .lit (.string [45]), .lit (.string [42]), .lit (.string [47]), .lit (.string [47, 47]), .lit (.string [37]), .lit (.string [38]), .lit (.string [124]), .lit (.string [94]), .lit (.string [60, 60]), .lit (.string [62, 62]), .lit (.string [126]), .lit (.string [46]), .lit (.string [44]), .lit (.string [61]), .lit (.string [59]), .lit (.string [58]), .lit (.string [40]), .lit (.string [41]), .lit (.string [91]), .lit (.string [93]), .lit (.string [123]), .lit (.string [125]), .lit (.string [60]), .lit (.string [62]), .lit (.string [62, 61]), .lit (.string [60, 61]), .lit (.string [61, 61]), .lit (.string [33, 61]), .lit (.string [43, 61]), .lit (.string [45, 61]), .lit (.string [42, 61]), .lit (.string [47, 61]), .lit (.string [47, 47, 61]), .lit (.string [37, 61]), .lit (.string [38, 61]), .lit (.string [124, 61]), .lit (.string [94, 61]), .lit (.string [60, 60, 61]), .lit (.string [62, 62, 61]), .lit (.string [42, 42]), .lit (.string [97, 110, 100]), .lit (.string [98, 114, 101, 97, 107]), .lit (.string [99, 111, 110, 116, 105, 110, 117, 101]), .lit (.string [100, 101, 102]), .lit (.string [101, 108, 105, 102]), .lit (.string [101, 108, 115, 101]), .lit (.string [102, 111, 114]), .lit (.string [105, 102]), .lit (.string [105, 110]), .lit (.string [108, 97, 109, 98, 100, 97]), .lit (.string [108, 111, 97, 100]), .lit (.string [110, 111, 116]), .lit (.string [110, 111, 116, 32, 105, 110]), .lit (.string [111, 114]), .lit (.string [112, 97, 115, 115]), .lit (.string [114, 101, 116, 117, 114, 110]), .lit (.string [119, 104, 105, 108, 101]), .lit (.string [97, 115]), .lit (.string [97, 115, 121, 110, 99]), .lit (.string [97, 119, 97, 105, 116]), .lit (.string [99, 108, 97, 115, 115]), .lit (.string [100, 101, 108]), .lit (.string [101, 120, 99, 101, 112, 116]), .lit (.string [102, 105, 110, 97, 108, 108, 121]), .lit (.string [102, 114, 111, 109]), .lit (.string [103, 108, 111, 98, 97, 108]), .lit (.string [105, 109, 112, 111, 114, 116]), .lit (.string [105, 115]), .lit (.string [110, 111, 110, 108, 111, 99, 97, 108]), .lit (.string [114, 97, 105, 115, 101]), .lit (.string [116, 114, 121]), .lit (.string [119, 105, 116, 104]), .lit (.string [121, 105, 101, 108, 100])]

/-- 'laws.FnTokens': WHATEVER THE INPUT: true; the input reads as it did. -/
def fnTokensSpec : ChangeSpec := { name := "fnTokens", vars := ["loop.example/pub-g03331/pub/starlark/syntax.tokenNames"], fn := fun _ => fun
  | [d, g1] => { results := [.lit (.bool true)], args := [d], vars := [g1] }
  | _ => none }
def fnTokensRow : OpenClaim := { program := "ythdeffbhpdcifaadoor", sum := "53d5de323b02897ae3462851f83a52a3bbffd9bcb10623abf7f975a1e8eecdbe", func := "loop.example/pub-g03331/laws.FnTokens", spec := "fnTokens", named := ["loop.example/pub-g03331/pub/starlark/syntax.tokenNames"], apart := false, laid := [("loop.example/pub-g03331/pub/starlark/syntax.tokenNames", laid_loop_example_pub_g03331_pub_starlark_syntax_tokenNames)] }
def FnTokensSaid : Prop := fnTokensRow.holds Tryd.pinned (OpenSpec.ofChange fnTokensSpec)

/-- ITS FALSE NEIGHBOUR: 'it returns false'. Refute it at one input. -/
def fnTokensWrong : ChangeSpec := { name := "fnTokens", vars := ["loop.example/pub-g03331/pub/starlark/syntax.tokenNames"], fn := fun _ => fun
  | [d, g1] => { results := [.lit (.bool false)], args := [d], vars := [g1] }
  | _ => none }
def FnTokensWrongFalsely : Prop := fnTokensRow.holds Tryd.pinned (OpenSpec.ofChange fnTokensWrong)

/- THE SECOND FORM. 'bulk': how many values and letters a reading holds, each counted each time it is reached (what is shared counts as often as it is met; a slice's spare places count too). A statement '..UptoSaid' is the law's where the arguments, and the package variables that the reading takes, are together of bulk at most 1048576: NARROWER than '..Said'. Prove '..Said' where nothing that the law and all that it calls make is longer than what came in: it says more and counts as full. Else prove '..UptoSaid'. A law counts once. -/
mutual
def uptoBulk {H : Type} : DataW H → Nat
  | .lit (.string bytes) => bytes.length + 1
  | .lit _ => 1
  | .nil => 1
  | .ptr d => uptoBulk d + 1
  | .slice elems spare => uptoBulkAll elems + uptoBulkAll spare + 1
  | .agg parts => uptoBulkAll parts + 1
  | .iface _ d => uptoBulk d + 1
  | .map entries => uptoBulkEntries entries + 1
  | .held _ => 1
def uptoBulkAll {H : Type} : List (DataW H) → Nat
  | [] => 0
  | d :: r => uptoBulk d + uptoBulkAll r
def uptoBulkEntries {H : Type} : List (Lit × DataW H) → Nat
  | [] => 0
  | x :: r => uptoBulkEntry x + uptoBulkEntries r
def uptoBulkEntry {H : Type} : Lit × DataW H → Nat
  | (.string bytes, d) => bytes.length + uptoBulk d + 1
  | (_, d) => uptoBulk d + 1
 end
def uptoSmall : (H : Type) → List (DataW H) → Bool := fun _ ds => decide (uptoBulkAll ds ≤ 1048576)
def OpenSpec.upto (s : _root_.Go.ChangeSpec) : _root_.Go.OpenSpec := { _root_.Go.OpenSpec.ofChange s with cond := some uptoSmall }

/-- 'laws.FnTokens', WHERE WHAT IT READS IS OF BULK AT MOST 1048576: true; the input reads as it did. -/
def fnTokensUptoRow : OpenClaim := { program := "ythdeffbhpdcifaadoor", sum := "53d5de323b02897ae3462851f83a52a3bbffd9bcb10623abf7f975a1e8eecdbe", func := "loop.example/pub-g03331/laws.FnTokens", spec := "fnTokens", named := ["loop.example/pub-g03331/pub/starlark/syntax.tokenNames"], apart := false, laid := [("loop.example/pub-g03331/pub/starlark/syntax.tokenNames", laid_loop_example_pub_g03331_pub_starlark_syntax_tokenNames)], narrowed := true }
def FnTokensUptoSaid : Prop := fnTokensUptoRow.holds Tryd.pinned (OpenSpec.upto fnTokensSpec)

end Rows
end Go.Proofs.YthdeffbhpdcifaaDoor
