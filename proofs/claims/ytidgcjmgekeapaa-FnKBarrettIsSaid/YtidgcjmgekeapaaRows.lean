/-
  No cell of these rows narrows 'for every input' (looked for: loops, veiled, ifaces, maps, wideKeys, modest, calm, conditions, laid).
  DERIVED. THE GIVEN ROWS OF THIS SEAT. 7 by the template 'for every input the law returns true; each argument reads behind the call as it read before'; 0 by the template 'total and deterministic' (their statements: YtidgcjmgekeapaaTotals.lean).
  GIVEN WITH THE SEED: the statements are not yours to turn. If you find one false, say at which input.
  Laid BY PROGRAM, IN A SANDBOX (cutbox-rows.mjs): the forced cells as the released guide's own fill.sh prints them over the translation 61952a487385ddb8… (all of the seat's roots in one cut). By AI agents, Wed Nov 11 2026. No macro, syntax, notation, axiom, sorry.
-/
import Derived.Test.YtidgcjmgekeapaaChecked
import GoSem.Claim
import GoSem.ClaimJoined
import GoSem.ClaimMapViews
import Derived.JoinedTies
import Derived.KernelRfl
namespace Go.Proofs.Ytidgcjmgekeapaa
/- THE CELL 'sum', in the pinned program and in every row, IS THE sha256 OF THE DUMP (.gsa) THAT YtidgcjmgekeapaaProg.lean LOADS. Nothing in Lean hashes anything: it is a label: what it is worth is what the hold of that sum in a sandbox is worth. -/
noncomputable def Try.pinned : Pinned := { name := "ytidgcjmgekeapaa", sum := "61952a487385ddb872f5c686e875cd115713dcd9ab3b6c636c657c43f2f86b48", checked := Try.checked }
namespace Rows
def none {H : Type} : Left H := { results := [], args := [] }

/-- 'laws.FnKCsubqIs': WHATEVER THE INPUT: true; the input reads as it did. -/
def fnKCsubqIsSpec : ChangeSpec := { name := "fnKCsubqIs", fn := fun _ => fun
  | [d] => { results := [.lit (.bool true)], args := [d] }
  | _ => none }
def fnKCsubqIsRow : OpenClaim := { program := "ytidgcjmgekeapaa", sum := "61952a487385ddb872f5c686e875cd115713dcd9ab3b6c636c657c43f2f86b48", func := "loop.example/pub-g03034/laws.FnKCsubqIs", spec := "fnKCsubqIs", apart := false }
def FnKCsubqIsSaid : Prop := fnKCsubqIsRow.holds Try.pinned (OpenSpec.ofChange fnKCsubqIsSpec)

/-- ITS FALSE NEIGHBOUR: 'it returns false'. Refute it at one input. -/
def fnKCsubqIsWrong : ChangeSpec := { name := "fnKCsubqIs", fn := fun _ => fun
  | [d] => { results := [.lit (.bool false)], args := [d] }
  | _ => none }
def FnKCsubqIsWrongFalsely : Prop := fnKCsubqIsRow.holds Try.pinned (OpenSpec.ofChange fnKCsubqIsWrong)

/-- 'laws.FnKTangle': WHATEVER THE INPUT: true; the input reads as it did. -/
def fnKTangleSpec : ChangeSpec := { name := "fnKTangle", fn := fun _ => fun
  | [d] => { results := [.lit (.bool true)], args := [d] }
  | _ => none }
def fnKTangleRow : OpenClaim := { program := "ytidgcjmgekeapaa", sum := "61952a487385ddb872f5c686e875cd115713dcd9ab3b6c636c657c43f2f86b48", func := "loop.example/pub-g03034/laws.FnKTangle", spec := "fnKTangle", apart := false }
def FnKTangleSaid : Prop := fnKTangleRow.holds Try.pinned (OpenSpec.ofChange fnKTangleSpec)

/-- ITS FALSE NEIGHBOUR: 'it returns false'. Refute it at one input. -/
def fnKTangleWrong : ChangeSpec := { name := "fnKTangle", fn := fun _ => fun
  | [d] => { results := [.lit (.bool false)], args := [d] }
  | _ => none }
def FnKTangleWrongFalsely : Prop := fnKTangleRow.holds Try.pinned (OpenSpec.ofChange fnKTangleWrong)

/-- 'laws.FnKAddIs': WHATEVER THE INPUT: true; the input reads as it did. -/
def fnKAddIsSpec : ChangeSpec := { name := "fnKAddIs", fn := fun _ => fun
  | [d1, d2] => { results := [.lit (.bool true)], args := [d1, d2] }
  | _ => none }
def fnKAddIsRow : OpenClaim := { program := "ytidgcjmgekeapaa", sum := "61952a487385ddb872f5c686e875cd115713dcd9ab3b6c636c657c43f2f86b48", func := "loop.example/pub-g03034/laws.FnKAddIs", spec := "fnKAddIs", apart := false }
def FnKAddIsSaid : Prop := fnKAddIsRow.holds Try.pinned (OpenSpec.ofChange fnKAddIsSpec)

/-- ITS FALSE NEIGHBOUR: 'it returns false'. Refute it at one input. -/
def fnKAddIsWrong : ChangeSpec := { name := "fnKAddIs", fn := fun _ => fun
  | [d1, d2] => { results := [.lit (.bool false)], args := [d1, d2] }
  | _ => none }
def FnKAddIsWrongFalsely : Prop := fnKAddIsRow.holds Try.pinned (OpenSpec.ofChange fnKAddIsWrong)

/-- 'laws.FnKBarrettIs': WHATEVER THE INPUT: true; the input reads as it did. -/
def fnKBarrettIsSpec : ChangeSpec := { name := "fnKBarrettIs", fn := fun _ => fun
  | [d] => { results := [.lit (.bool true)], args := [d] }
  | _ => none }
def fnKBarrettIsRow : OpenClaim := { program := "ytidgcjmgekeapaa", sum := "61952a487385ddb872f5c686e875cd115713dcd9ab3b6c636c657c43f2f86b48", func := "loop.example/pub-g03034/laws.FnKBarrettIs", spec := "fnKBarrettIs", apart := false }
def FnKBarrettIsSaid : Prop := fnKBarrettIsRow.holds Try.pinned (OpenSpec.ofChange fnKBarrettIsSpec)

/-- ITS FALSE NEIGHBOUR: 'it returns false'. Refute it at one input. -/
def fnKBarrettIsWrong : ChangeSpec := { name := "fnKBarrettIs", fn := fun _ => fun
  | [d] => { results := [.lit (.bool false)], args := [d] }
  | _ => none }
def FnKBarrettIsWrongFalsely : Prop := fnKBarrettIsRow.holds Try.pinned (OpenSpec.ofChange fnKBarrettIsWrong)

/-- 'laws.FnKNormalizeIs': WHATEVER THE INPUT: true; the input reads as it did. -/
def fnKNormalizeIsSpec : ChangeSpec := { name := "fnKNormalizeIs", fn := fun _ => fun
  | [d] => { results := [.lit (.bool true)], args := [d] }
  | _ => none }
def fnKNormalizeIsRow : OpenClaim := { program := "ytidgcjmgekeapaa", sum := "61952a487385ddb872f5c686e875cd115713dcd9ab3b6c636c657c43f2f86b48", func := "loop.example/pub-g03034/laws.FnKNormalizeIs", spec := "fnKNormalizeIs", apart := false }
def FnKNormalizeIsSaid : Prop := fnKNormalizeIsRow.holds Try.pinned (OpenSpec.ofChange fnKNormalizeIsSpec)

/-- ITS FALSE NEIGHBOUR: 'it returns false'. Refute it at one input. -/
def fnKNormalizeIsWrong : ChangeSpec := { name := "fnKNormalizeIs", fn := fun _ => fun
  | [d] => { results := [.lit (.bool false)], args := [d] }
  | _ => none }
def FnKNormalizeIsWrongFalsely : Prop := fnKNormalizeIsRow.holds Try.pinned (OpenSpec.ofChange fnKNormalizeIsWrong)

/-- 'laws.FnKMontIs': WHATEVER THE INPUT: true; the input reads as it did. -/
def fnKMontIsSpec : ChangeSpec := { name := "fnKMontIs", fn := fun _ => fun
  | [d1, d2] => { results := [.lit (.bool true)], args := [d1, d2] }
  | _ => none }
def fnKMontIsRow : OpenClaim := { program := "ytidgcjmgekeapaa", sum := "61952a487385ddb872f5c686e875cd115713dcd9ab3b6c636c657c43f2f86b48", func := "loop.example/pub-g03034/laws.FnKMontIs", spec := "fnKMontIs", apart := false }
def FnKMontIsSaid : Prop := fnKMontIsRow.holds Try.pinned (OpenSpec.ofChange fnKMontIsSpec)

/-- ITS FALSE NEIGHBOUR: 'it returns false'. Refute it at one input. -/
def fnKMontIsWrong : ChangeSpec := { name := "fnKMontIs", fn := fun _ => fun
  | [d1, d2] => { results := [.lit (.bool false)], args := [d1, d2] }
  | _ => none }
def FnKMontIsWrongFalsely : Prop := fnKMontIsRow.holds Try.pinned (OpenSpec.ofChange fnKMontIsWrong)

/-- 'laws.FnKToMontIs': WHATEVER THE INPUT: true; the input reads as it did. -/
def fnKToMontIsSpec : ChangeSpec := { name := "fnKToMontIs", fn := fun _ => fun
  | [d] => { results := [.lit (.bool true)], args := [d] }
  | _ => none }
def fnKToMontIsRow : OpenClaim := { program := "ytidgcjmgekeapaa", sum := "61952a487385ddb872f5c686e875cd115713dcd9ab3b6c636c657c43f2f86b48", func := "loop.example/pub-g03034/laws.FnKToMontIs", spec := "fnKToMontIs", apart := false }
def FnKToMontIsSaid : Prop := fnKToMontIsRow.holds Try.pinned (OpenSpec.ofChange fnKToMontIsSpec)

/-- ITS FALSE NEIGHBOUR: 'it returns false'. Refute it at one input. -/
def fnKToMontIsWrong : ChangeSpec := { name := "fnKToMontIs", fn := fun _ => fun
  | [d] => { results := [.lit (.bool false)], args := [d] }
  | _ => none }
def FnKToMontIsWrongFalsely : Prop := fnKToMontIsRow.holds Try.pinned (OpenSpec.ofChange fnKToMontIsWrong)

/- THE SECOND FORM. 'bulk': how many values and letters a reading holds, each counted each time it is reached (what is shared counts as often as it is met; a slice's spare places count too). A statement '..UptoSaid' is the law's where the arguments, and the package variables that the reading takes, are together of bulk at most 1048576: NARROWER than '..Said'. Prove '..Said' where nothing that the law and all that it calls make is longer than what came in: it says more and counts as full. Else prove '..UptoSaid'. A law counts once. -/
mutual
def uptoBulk {H : Type} : DataW H → Nat
  | .lit (.string bytes) => bytes.length + 1
  | .lit _ => 1
  | .nil => 1
  | .ptr d => uptoBulk d + 1
  | .slice elems spare => uptoBulkAll elems + uptoBulkAll spare + 1
  | .agg parts => uptoBulkAll parts + 1
  | .iface _ d => uptoBulk d + 1
  | .map entries => uptoBulkEntries entries + 1
  | .held _ => 1
def uptoBulkAll {H : Type} : List (DataW H) → Nat
  | [] => 0
  | d :: r => uptoBulk d + uptoBulkAll r
def uptoBulkEntries {H : Type} : List (Lit × DataW H) → Nat
  | [] => 0
  | x :: r => uptoBulkEntry x + uptoBulkEntries r
def uptoBulkEntry {H : Type} : Lit × DataW H → Nat
  | (.string bytes, d) => bytes.length + uptoBulk d + 1
  | (_, d) => uptoBulk d + 1
 end
def uptoSmall : (H : Type) → List (DataW H) → Bool := fun _ ds => decide (uptoBulkAll ds ≤ 1048576)
def OpenSpec.upto (s : _root_.Go.ChangeSpec) : _root_.Go.OpenSpec := { _root_.Go.OpenSpec.ofChange s with cond := some uptoSmall }

/-- 'laws.FnKCsubqIs', WHERE WHAT IT READS IS OF BULK AT MOST 1048576: true; the input reads as it did. -/
def fnKCsubqIsUptoRow : OpenClaim := { program := "ytidgcjmgekeapaa", sum := "61952a487385ddb872f5c686e875cd115713dcd9ab3b6c636c657c43f2f86b48", func := "loop.example/pub-g03034/laws.FnKCsubqIs", spec := "fnKCsubqIs", apart := false, narrowed := true }
def FnKCsubqIsUptoSaid : Prop := fnKCsubqIsUptoRow.holds Try.pinned (OpenSpec.upto fnKCsubqIsSpec)

/-- 'laws.FnKTangle', WHERE WHAT IT READS IS OF BULK AT MOST 1048576: true; the input reads as it did. -/
def fnKTangleUptoRow : OpenClaim := { program := "ytidgcjmgekeapaa", sum := "61952a487385ddb872f5c686e875cd115713dcd9ab3b6c636c657c43f2f86b48", func := "loop.example/pub-g03034/laws.FnKTangle", spec := "fnKTangle", apart := false, narrowed := true }
def FnKTangleUptoSaid : Prop := fnKTangleUptoRow.holds Try.pinned (OpenSpec.upto fnKTangleSpec)

/-- 'laws.FnKAddIs', WHERE WHAT IT READS IS OF BULK AT MOST 1048576: true; the input reads as it did. -/
def fnKAddIsUptoRow : OpenClaim := { program := "ytidgcjmgekeapaa", sum := "61952a487385ddb872f5c686e875cd115713dcd9ab3b6c636c657c43f2f86b48", func := "loop.example/pub-g03034/laws.FnKAddIs", spec := "fnKAddIs", apart := false, narrowed := true }
def FnKAddIsUptoSaid : Prop := fnKAddIsUptoRow.holds Try.pinned (OpenSpec.upto fnKAddIsSpec)

/-- 'laws.FnKBarrettIs', WHERE WHAT IT READS IS OF BULK AT MOST 1048576: true; the input reads as it did. -/
def fnKBarrettIsUptoRow : OpenClaim := { program := "ytidgcjmgekeapaa", sum := "61952a487385ddb872f5c686e875cd115713dcd9ab3b6c636c657c43f2f86b48", func := "loop.example/pub-g03034/laws.FnKBarrettIs", spec := "fnKBarrettIs", apart := false, narrowed := true }
def FnKBarrettIsUptoSaid : Prop := fnKBarrettIsUptoRow.holds Try.pinned (OpenSpec.upto fnKBarrettIsSpec)

/-- 'laws.FnKNormalizeIs', WHERE WHAT IT READS IS OF BULK AT MOST 1048576: true; the input reads as it did. -/
def fnKNormalizeIsUptoRow : OpenClaim := { program := "ytidgcjmgekeapaa", sum := "61952a487385ddb872f5c686e875cd115713dcd9ab3b6c636c657c43f2f86b48", func := "loop.example/pub-g03034/laws.FnKNormalizeIs", spec := "fnKNormalizeIs", apart := false, narrowed := true }
def FnKNormalizeIsUptoSaid : Prop := fnKNormalizeIsUptoRow.holds Try.pinned (OpenSpec.upto fnKNormalizeIsSpec)

/-- 'laws.FnKMontIs', WHERE WHAT IT READS IS OF BULK AT MOST 1048576: true; the input reads as it did. -/
def fnKMontIsUptoRow : OpenClaim := { program := "ytidgcjmgekeapaa", sum := "61952a487385ddb872f5c686e875cd115713dcd9ab3b6c636c657c43f2f86b48", func := "loop.example/pub-g03034/laws.FnKMontIs", spec := "fnKMontIs", apart := false, narrowed := true }
def FnKMontIsUptoSaid : Prop := fnKMontIsUptoRow.holds Try.pinned (OpenSpec.upto fnKMontIsSpec)

/-- 'laws.FnKToMontIs', WHERE WHAT IT READS IS OF BULK AT MOST 1048576: true; the input reads as it did. -/
def fnKToMontIsUptoRow : OpenClaim := { program := "ytidgcjmgekeapaa", sum := "61952a487385ddb872f5c686e875cd115713dcd9ab3b6c636c657c43f2f86b48", func := "loop.example/pub-g03034/laws.FnKToMontIs", spec := "fnKToMontIs", apart := false, narrowed := true }
def FnKToMontIsUptoSaid : Prop := fnKToMontIsUptoRow.holds Try.pinned (OpenSpec.upto fnKToMontIsSpec)

end Rows
end Go.Proofs.Ytidgcjmgekeapaa
