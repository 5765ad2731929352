/-
  NARROWER THAN 'FOR EVERY INPUT', by the rows' own cells (each row's printed sentence says how): FnKProduct: laid.
  DERIVED. THE GIVEN ROWS OF THIS SEAT. 1 by the template 'for every input the law returns true; each argument reads behind the call as it read before'; 0 by the template 'total and deterministic' (their statements: YtgojphoejmbliaaDoorTotals.lean).
  GIVEN WITH THE SEED: the statements are not yours to turn. If you find one false, say at which input.
  Laid BY PROGRAM, IN A SANDBOX (cutbox-rows.mjs): the forced cells as the released guide's own fill.sh prints them over the translation 446d5e912ece10d0… (all of the seat's roots in one cut). By AI agents, Wed Nov 11 2026. No macro, syntax, notation, axiom, sorry.
-/
import Derived.Test.YtgojphoejmbliaaDoorChecked
import GoSem.Claim
import GoSem.ClaimJoined
import GoSem.ClaimMapViews
import Derived.JoinedTies
import Derived.KernelRfl
namespace Go.Proofs.YtgojphoejmbliaaDoor
/- THE CELL 'sum', in the pinned program and in every row, IS THE sha256 OF THE DUMP (.gsa) THAT YtgojphoejmbliaaDoorProg.lean LOADS. Nothing in Lean hashes anything: it is a label: what it is worth is what the hold of that sum in a sandbox is worth. -/
noncomputable def Tryd.pinned : Pinned := { name := "ytgojphoejmbliaadoor", sum := "446d5e912ece10d056c1b892dc80bcaa2cecbd08328a4d69d84ad46493624f1e", checked := Tryd.checked }
namespace Rows
def none {H : Type} : Left H := { results := [], args := [] }

/- WHAT THE LISTED PACKAGE-LEVEL VARIABLES READ AS WHEN THE CALL BEGINS. Each datum BY PROGRAM (the guide's laid-datum.mjs) off the statement by which the dump's own 'gosem.cut.vars' lays the variable. In a bare row this is a premise. The card (YtgojphoejmbliaaDoorCards.lean) ties it to the program's text. -/
def laid_loop_example_pub_g03034_pub_circl_kyber_Zetas {H : Type} : DataW H := .agg [.lit (.int .i16 2285), .lit (.int .i16 2571), .lit (.int .i16 2970), .lit (.int .i16 1812), .lit (.int .i16 1493), .lit (.int .i16 1422), .lit (.int .i16 287), .lit (.int .i16 202), .lit (.int .i16 3158), .lit (.int .i16 622), .lit (.int .i16 1577), .lit (.int .i16 182), .lit (.int .i16 962), .lit (.int .i16 2127), .lit (.int .i16 1855), .lit (.int .i16 1468), .lit (.int .i16 573), .lit (.int .i16 2004), .lit (.int .i16 264), .lit (.int .i16 383), .lit (.int .i16 2500), .lit (.int .i16 1458), .lit (.int .i16 1727), .lit (.int .i16 3199), .lit (.int .i16 2648), .lit (.int .i16 1017), .lit (.int .i16 732), .lit (.int .i16 608), .lit (.int .i16 1787), .lit (.int .i16 411), .lit (.int .i16 3124), .lit (.int .i16 1758), .lit (.int .i16 1223), .lit (.int .i16 652), .lit (.int .i16 2777), .lit (.int .i16 1015), .lit (.int .i16 2036), .lit (.int .i16 1491), .lit (.int .i16 3047), .lit (.int .i16 1785), .lit (.int .i16 516), .lit (.int .i16 3321), .lit (.int .i16 3009), .lit (.int .i16 2663), .lit (.int .i16 1711), .lit (.int .i16 2167), .lit (.int .i16 126), .lit (.int .i16 1469), .lit (.int .i16 2476), .lit (.int .i16 3239), .lit (.int .i16 3058), .lit (.int .i16 830), .lit (.int .i16 107), .lit (.int .i16 1908), .lit (.int .i16 3082), .lit (.int .i16 2378), .lit (.int .i16 2931), .lit (.int .i16 961), .lit (.int .i16 1821), .lit (.int .i16 2604), .lit (.int .i16 448), .lit (.int .i16 2264), .lit (.int .i16 677), .lit (.int .i16 2054), .lit (.int .i16 2226), .lit (.int .i16 430), .lit (.int .i16 555), .lit (.int .i16 843), .lit (.int .i16 2078), .lit (.int .i16 871), .lit (.int .i16 1550), .lit (.int .i16 105), .lit (.int .i16 422), .lit (.int .i16 587), .lit (.int .i16 177), .lit (.int .i16 3094), .lit (.int .i16 3038), .lit (.int .i16 2869), .lit (.int .i16 1574), .lit (.int .i16 1653), .lit (.int .i16 3083), .lit (.int .i16 778), .lit (.int .i16 1159), .lit (.int .i16 3182), .lit (.int .i16 2552), .lit (.int .i16 1483), .lit (.int .i16 2727), .lit (.int .i16 1119), .lit (.int .i16 1739), .lit (.int .i16 644), .lit (.int .i16 2457), .lit (.int .i16 349), .lit (.int .i16 418), .lit (.int .i16 329), .lit (.int .i16 3173), .lit (.int .i16 3254), .lit (.int .i16 817), .lit (.int .i16 1097), .lit (.int .i16 603), .lit (.int .i16 610), .lit (.int .i16 1322), .lit (.int .i16 2044), .lit (.int .i16 1864), .lit (.int .i16 384), .lit (.int .i16 2114), .lit (.int .i16 3193), .lit (.int .i16 1218), .lit (.int .i16 1994), .lit (.int .i16 2455), .lit (.int .i16 220), .lit (.int .i16 2142), .lit (.int .i16 1670), .lit (.int .i16 2144), .lit (.int .i16 1799), .lit (.int .i16 2051), .lit (.int .i16 794), .lit (.int .i16 1819), .lit (.int .i16 2475), .lit (.int .i16 2459), .lit (.int .i16 478), .lit (.int .i16 3221), .lit (.int .i16 3021), .lit (.int .i16 996), .lit (.int .i16 991), .lit (.int .i16 958), .lit (.int .i16 1869), .lit (.int .i16 1522), .lit (.int .i16 1628)]
def laid_loop_example_pub_g03034_pub_circl_kyber_InvNTTReductions {H : Type} : DataW H := .agg [.lit (.int .i64 (-1)), .lit (.int .i64 (-1)), .lit (.int .i64 16), .lit (.int .i64 17), .lit (.int .i64 48), .lit (.int .i64 49), .lit (.int .i64 80), .lit (.int .i64 81), .lit (.int .i64 112), .lit (.int .i64 113), .lit (.int .i64 144), .lit (.int .i64 145), .lit (.int .i64 176), .lit (.int .i64 177), .lit (.int .i64 208), .lit (.int .i64 209), .lit (.int .i64 240), .lit (.int .i64 241), .lit (.int .i64 (-1)), .lit (.int .i64 0), .lit (.int .i64 1), .lit (.int .i64 32), .lit (.int .i64 33), .lit (.int .i64 34), .lit (.int .i64 35), .lit (.int .i64 64), .lit (.int .i64 65), .lit (.int .i64 96), .lit (.int .i64 97), .lit (.int .i64 98), .lit (.int .i64 99), .lit (.int .i64 128), .lit (.int .i64 129), .lit (.int .i64 160), .lit (.int .i64 161), .lit (.int .i64 162), .lit (.int .i64 163), .lit (.int .i64 192), .lit (.int .i64 193), .lit (.int .i64 224), .lit (.int .i64 225), .lit (.int .i64 226), .lit (.int .i64 227), .lit (.int .i64 (-1)), .lit (.int .i64 2), .lit (.int .i64 3), .lit (.int .i64 66), .lit (.int .i64 67), .lit (.int .i64 68), .lit (.int .i64 69), .lit (.int .i64 70), .lit (.int .i64 71), .lit (.int .i64 130), .lit (.int .i64 131), .lit (.int .i64 194), .lit (.int .i64 195), .lit (.int .i64 196), .lit (.int .i64 197), .lit (.int .i64 198), .lit (.int .i64 199), .lit (.int .i64 (-1)), .lit (.int .i64 4), .lit (.int .i64 5), .lit (.int .i64 6), .lit (.int .i64 7), .lit (.int .i64 132), .lit (.int .i64 133), .lit (.int .i64 134), .lit (.int .i64 135), .lit (.int .i64 136), .lit (.int .i64 137), .lit (.int .i64 138), .lit (.int .i64 139), .lit (.int .i64 140), .lit (.int .i64 141), .lit (.int .i64 142), .lit (.int .i64 143), .lit (.int .i64 (-1)), .lit (.int .i64 (-1))]

/-- 'laws.FnKProduct': WHATEVER THE INPUT: true; the input reads as it did. -/
def fnKProductSpec : ChangeSpec := { name := "fnKProduct", vars := ["loop.example/pub-g03034/pub/circl/kyber.Zetas", "loop.example/pub-g03034/pub/circl/kyber.InvNTTReductions"], fn := fun _ => fun
  | [d1, d2, g1, g2] => { results := [.lit (.bool true)], args := [d1, d2], vars := [g1, g2] }
  | _ => none }
def fnKProductRow : OpenClaim := { program := "ytgojphoejmbliaadoor", sum := "446d5e912ece10d056c1b892dc80bcaa2cecbd08328a4d69d84ad46493624f1e", func := "loop.example/pub-g03034/laws.FnKProduct", spec := "fnKProduct", named := ["loop.example/pub-g03034/pub/circl/kyber.Zetas", "loop.example/pub-g03034/pub/circl/kyber.InvNTTReductions"], apart := false, laid := [("loop.example/pub-g03034/pub/circl/kyber.Zetas", laid_loop_example_pub_g03034_pub_circl_kyber_Zetas), ("loop.example/pub-g03034/pub/circl/kyber.InvNTTReductions", laid_loop_example_pub_g03034_pub_circl_kyber_InvNTTReductions)] }
def FnKProductSaid : Prop := fnKProductRow.holds Tryd.pinned (OpenSpec.ofChange fnKProductSpec)

/-- ITS FALSE NEIGHBOUR: 'it returns false'. Refute it at one input. -/
def fnKProductWrong : ChangeSpec := { name := "fnKProduct", vars := ["loop.example/pub-g03034/pub/circl/kyber.Zetas", "loop.example/pub-g03034/pub/circl/kyber.InvNTTReductions"], fn := fun _ => fun
  | [d1, d2, g1, g2] => { results := [.lit (.bool false)], args := [d1, d2], vars := [g1, g2] }
  | _ => none }
def FnKProductWrongFalsely : Prop := fnKProductRow.holds Tryd.pinned (OpenSpec.ofChange fnKProductWrong)

/- THE SECOND FORM. 'bulk': how many values and letters a reading holds, each counted each time it is reached (what is shared counts as often as it is met; a slice's spare places count too). A statement '..UptoSaid' is the law's where the arguments, and the package variables that the reading takes, are together of bulk at most 1048576: NARROWER than '..Said'. Prove '..Said' where nothing that the law and all that it calls make is longer than what came in: it says more and counts as full. Else prove '..UptoSaid'. A law counts once. -/
mutual
def uptoBulk {H : Type} : DataW H → Nat
  | .lit (.string bytes) => bytes.length + 1
  | .lit _ => 1
  | .nil => 1
  | .ptr d => uptoBulk d + 1
  | .slice elems spare => uptoBulkAll elems + uptoBulkAll spare + 1
  | .agg parts => uptoBulkAll parts + 1
  | .iface _ d => uptoBulk d + 1
  | .map entries => uptoBulkEntries entries + 1
  | .held _ => 1
def uptoBulkAll {H : Type} : List (DataW H) → Nat
  | [] => 0
  | d :: r => uptoBulk d + uptoBulkAll r
def uptoBulkEntries {H : Type} : List (Lit × DataW H) → Nat
  | [] => 0
  | x :: r => uptoBulkEntry x + uptoBulkEntries r
def uptoBulkEntry {H : Type} : Lit × DataW H → Nat
  | (.string bytes, d) => bytes.length + uptoBulk d + 1
  | (_, d) => uptoBulk d + 1
 end
def uptoSmall : (H : Type) → List (DataW H) → Bool := fun _ ds => decide (uptoBulkAll ds ≤ 1048576)
def OpenSpec.upto (s : _root_.Go.ChangeSpec) : _root_.Go.OpenSpec := { _root_.Go.OpenSpec.ofChange s with cond := some uptoSmall }

/-- 'laws.FnKProduct', WHERE WHAT IT READS IS OF BULK AT MOST 1048576: true; the input reads as it did. -/
def fnKProductUptoRow : OpenClaim := { program := "ytgojphoejmbliaadoor", sum := "446d5e912ece10d056c1b892dc80bcaa2cecbd08328a4d69d84ad46493624f1e", func := "loop.example/pub-g03034/laws.FnKProduct", spec := "fnKProduct", named := ["loop.example/pub-g03034/pub/circl/kyber.Zetas", "loop.example/pub-g03034/pub/circl/kyber.InvNTTReductions"], apart := false, laid := [("loop.example/pub-g03034/pub/circl/kyber.Zetas", laid_loop_example_pub_g03034_pub_circl_kyber_Zetas), ("loop.example/pub-g03034/pub/circl/kyber.InvNTTReductions", laid_loop_example_pub_g03034_pub_circl_kyber_InvNTTReductions)], narrowed := true }
def FnKProductUptoSaid : Prop := fnKProductUptoRow.holds Tryd.pinned (OpenSpec.upto fnKProductSpec)

end Rows
end Go.Proofs.YtgojphoejmbliaaDoor
