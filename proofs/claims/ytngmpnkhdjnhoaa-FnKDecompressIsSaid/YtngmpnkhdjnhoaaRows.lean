/-
  No cell of these rows narrows 'for every input' (looked for: loops, veiled, ifaces, maps, wideKeys, modest, calm, conditions, laid).
  DERIVED. THE GIVEN ROWS OF THIS SEAT. 7 by the template 'for every input the law returns true; each argument reads behind the call as it read before'; 0 by the template 'total and deterministic' (their statements: YtngmpnkhdjnhoaaTotals.lean).
  GIVEN WITH THE SEED: the statements are not yours to turn. If you find one false, say at which input.
  Laid BY PROGRAM, IN A SANDBOX (cutbox-rows.mjs): the forced cells as the released guide's own fill.sh prints them over the translation 94635a2151709f93… (all of the seat's roots in one cut). By AI agents, Wed Nov 11 2026. No macro, syntax, notation, axiom, sorry.
-/
import Derived.Test.YtngmpnkhdjnhoaaChecked
import GoSem.Claim
import GoSem.ClaimJoined
import GoSem.ClaimMapViews
import Derived.JoinedTies
import Derived.KernelRfl
namespace Go.Proofs.Ytngmpnkhdjnhoaa
/- THE CELL 'sum', in the pinned program and in every row, IS THE sha256 OF THE DUMP (.gsa) THAT YtngmpnkhdjnhoaaProg.lean LOADS. Nothing in Lean hashes anything: it is a label: what it is worth is what the hold of that sum in a sandbox is worth. -/
noncomputable def Try.pinned : Pinned := { name := "ytngmpnkhdjnhoaa", sum := "94635a2151709f93050fbc6450f9659e21ca533419f7d2ec705417cc31b707df", checked := Try.checked }
namespace Rows
def none {H : Type} : Left H := { results := [], args := [] }

/-- 'laws.FnKPackIs': WHATEVER THE INPUT: true; the input reads as it did. -/
def fnKPackIsSpec : ChangeSpec := { name := "fnKPackIs", fn := fun _ => fun
  | [d] => { results := [.lit (.bool true)], args := [d] }
  | _ => none }
def fnKPackIsRow : OpenClaim := { program := "ytngmpnkhdjnhoaa", sum := "94635a2151709f93050fbc6450f9659e21ca533419f7d2ec705417cc31b707df", func := "loop.example/pub-g03034/laws.FnKPackIs", spec := "fnKPackIs", apart := false }
def FnKPackIsSaid : Prop := fnKPackIsRow.holds Try.pinned (OpenSpec.ofChange fnKPackIsSpec)

/-- ITS FALSE NEIGHBOUR: 'it returns false'. Refute it at one input. -/
def fnKPackIsWrong : ChangeSpec := { name := "fnKPackIs", fn := fun _ => fun
  | [d] => { results := [.lit (.bool false)], args := [d] }
  | _ => none }
def FnKPackIsWrongFalsely : Prop := fnKPackIsRow.holds Try.pinned (OpenSpec.ofChange fnKPackIsWrong)

/-- 'laws.FnKUnpackIs': WHATEVER THE INPUT: true; the input reads as it did. -/
def fnKUnpackIsSpec : ChangeSpec := { name := "fnKUnpackIs", fn := fun _ => fun
  | [d] => { results := [.lit (.bool true)], args := [d] }
  | _ => none }
def fnKUnpackIsRow : OpenClaim := { program := "ytngmpnkhdjnhoaa", sum := "94635a2151709f93050fbc6450f9659e21ca533419f7d2ec705417cc31b707df", func := "loop.example/pub-g03034/laws.FnKUnpackIs", spec := "fnKUnpackIs", apart := false }
def FnKUnpackIsSaid : Prop := fnKUnpackIsRow.holds Try.pinned (OpenSpec.ofChange fnKUnpackIsSpec)

/-- ITS FALSE NEIGHBOUR: 'it returns false'. Refute it at one input. -/
def fnKUnpackIsWrong : ChangeSpec := { name := "fnKUnpackIs", fn := fun _ => fun
  | [d] => { results := [.lit (.bool false)], args := [d] }
  | _ => none }
def FnKUnpackIsWrongFalsely : Prop := fnKUnpackIsRow.holds Try.pinned (OpenSpec.ofChange fnKUnpackIsWrong)

/-- 'laws.FnKPackBack': WHATEVER THE INPUT: true; the input reads as it did. -/
def fnKPackBackSpec : ChangeSpec := { name := "fnKPackBack", fn := fun _ => fun
  | [d] => { results := [.lit (.bool true)], args := [d] }
  | _ => none }
def fnKPackBackRow : OpenClaim := { program := "ytngmpnkhdjnhoaa", sum := "94635a2151709f93050fbc6450f9659e21ca533419f7d2ec705417cc31b707df", func := "loop.example/pub-g03034/laws.FnKPackBack", spec := "fnKPackBack", apart := false }
def FnKPackBackSaid : Prop := fnKPackBackRow.holds Try.pinned (OpenSpec.ofChange fnKPackBackSpec)

/-- ITS FALSE NEIGHBOUR: 'it returns false'. Refute it at one input. -/
def fnKPackBackWrong : ChangeSpec := { name := "fnKPackBack", fn := fun _ => fun
  | [d] => { results := [.lit (.bool false)], args := [d] }
  | _ => none }
def FnKPackBackWrongFalsely : Prop := fnKPackBackRow.holds Try.pinned (OpenSpec.ofChange fnKPackBackWrong)

/-- 'laws.FnKMessageIs': WHATEVER THE INPUT: true; the input reads as it did. -/
def fnKMessageIsSpec : ChangeSpec := { name := "fnKMessageIs", fn := fun _ => fun
  | [d1, d2] => { results := [.lit (.bool true)], args := [d1, d2] }
  | _ => none }
def fnKMessageIsRow : OpenClaim := { program := "ytngmpnkhdjnhoaa", sum := "94635a2151709f93050fbc6450f9659e21ca533419f7d2ec705417cc31b707df", func := "loop.example/pub-g03034/laws.FnKMessageIs", spec := "fnKMessageIs", apart := false }
def FnKMessageIsSaid : Prop := fnKMessageIsRow.holds Try.pinned (OpenSpec.ofChange fnKMessageIsSpec)

/-- ITS FALSE NEIGHBOUR: 'it returns false'. Refute it at one input. -/
def fnKMessageIsWrong : ChangeSpec := { name := "fnKMessageIs", fn := fun _ => fun
  | [d1, d2] => { results := [.lit (.bool false)], args := [d1, d2] }
  | _ => none }
def FnKMessageIsWrongFalsely : Prop := fnKMessageIsRow.holds Try.pinned (OpenSpec.ofChange fnKMessageIsWrong)

/-- 'laws.FnKDecompressIs': WHATEVER THE INPUT: true; the input reads as it did. -/
def fnKDecompressIsSpec : ChangeSpec := { name := "fnKDecompressIs", fn := fun _ => fun
  | [d1, d2] => { results := [.lit (.bool true)], args := [d1, d2] }
  | _ => none }
def fnKDecompressIsRow : OpenClaim := { program := "ytngmpnkhdjnhoaa", sum := "94635a2151709f93050fbc6450f9659e21ca533419f7d2ec705417cc31b707df", func := "loop.example/pub-g03034/laws.FnKDecompressIs", spec := "fnKDecompressIs", apart := false }
def FnKDecompressIsSaid : Prop := fnKDecompressIsRow.holds Try.pinned (OpenSpec.ofChange fnKDecompressIsSpec)

/-- ITS FALSE NEIGHBOUR: 'it returns false'. Refute it at one input. -/
def fnKDecompressIsWrong : ChangeSpec := { name := "fnKDecompressIs", fn := fun _ => fun
  | [d1, d2] => { results := [.lit (.bool false)], args := [d1, d2] }
  | _ => none }
def FnKDecompressIsWrongFalsely : Prop := fnKDecompressIsRow.holds Try.pinned (OpenSpec.ofChange fnKDecompressIsWrong)

/-- 'laws.FnKCompressIs': WHATEVER THE INPUT: true; the input reads as it did. -/
def fnKCompressIsSpec : ChangeSpec := { name := "fnKCompressIs", fn := fun _ => fun
  | [d1, d2] => { results := [.lit (.bool true)], args := [d1, d2] }
  | _ => none }
def fnKCompressIsRow : OpenClaim := { program := "ytngmpnkhdjnhoaa", sum := "94635a2151709f93050fbc6450f9659e21ca533419f7d2ec705417cc31b707df", func := "loop.example/pub-g03034/laws.FnKCompressIs", spec := "fnKCompressIs", apart := false }
def FnKCompressIsSaid : Prop := fnKCompressIsRow.holds Try.pinned (OpenSpec.ofChange fnKCompressIsSpec)

/-- ITS FALSE NEIGHBOUR: 'it returns false'. Refute it at one input. -/
def fnKCompressIsWrong : ChangeSpec := { name := "fnKCompressIs", fn := fun _ => fun
  | [d1, d2] => { results := [.lit (.bool false)], args := [d1, d2] }
  | _ => none }
def FnKCompressIsWrongFalsely : Prop := fnKCompressIsRow.holds Try.pinned (OpenSpec.ofChange fnKCompressIsWrong)

/-- 'laws.FnKCompressBack': WHATEVER THE INPUT: true; the input reads as it did. -/
def fnKCompressBackSpec : ChangeSpec := { name := "fnKCompressBack", fn := fun _ => fun
  | [d1, d2] => { results := [.lit (.bool true)], args := [d1, d2] }
  | _ => none }
def fnKCompressBackRow : OpenClaim := { program := "ytngmpnkhdjnhoaa", sum := "94635a2151709f93050fbc6450f9659e21ca533419f7d2ec705417cc31b707df", func := "loop.example/pub-g03034/laws.FnKCompressBack", spec := "fnKCompressBack", apart := false }
def FnKCompressBackSaid : Prop := fnKCompressBackRow.holds Try.pinned (OpenSpec.ofChange fnKCompressBackSpec)

/-- ITS FALSE NEIGHBOUR: 'it returns false'. Refute it at one input. -/
def fnKCompressBackWrong : ChangeSpec := { name := "fnKCompressBack", fn := fun _ => fun
  | [d1, d2] => { results := [.lit (.bool false)], args := [d1, d2] }
  | _ => none }
def FnKCompressBackWrongFalsely : Prop := fnKCompressBackRow.holds Try.pinned (OpenSpec.ofChange fnKCompressBackWrong)

/- THE SECOND FORM. 'bulk': how many values and letters a reading holds, each counted each time it is reached (what is shared counts as often as it is met; a slice's spare places count too). A statement '..UptoSaid' is the law's where the arguments, and the package variables that the reading takes, are together of bulk at most 1048576: NARROWER than '..Said'. Prove '..Said' where nothing that the law and all that it calls make is longer than what came in: it says more and counts as full. Else prove '..UptoSaid'. A law counts once. -/
mutual
def uptoBulk {H : Type} : DataW H → Nat
  | .lit (.string bytes) => bytes.length + 1
  | .lit _ => 1
  | .nil => 1
  | .ptr d => uptoBulk d + 1
  | .slice elems spare => uptoBulkAll elems + uptoBulkAll spare + 1
  | .agg parts => uptoBulkAll parts + 1
  | .iface _ d => uptoBulk d + 1
  | .map entries => uptoBulkEntries entries + 1
  | .held _ => 1
def uptoBulkAll {H : Type} : List (DataW H) → Nat
  | [] => 0
  | d :: r => uptoBulk d + uptoBulkAll r
def uptoBulkEntries {H : Type} : List (Lit × DataW H) → Nat
  | [] => 0
  | x :: r => uptoBulkEntry x + uptoBulkEntries r
def uptoBulkEntry {H : Type} : Lit × DataW H → Nat
  | (.string bytes, d) => bytes.length + uptoBulk d + 1
  | (_, d) => uptoBulk d + 1
 end
def uptoSmall : (H : Type) → List (DataW H) → Bool := fun _ ds => decide (uptoBulkAll ds ≤ 1048576)
def OpenSpec.upto (s : _root_.Go.ChangeSpec) : _root_.Go.OpenSpec := { _root_.Go.OpenSpec.ofChange s with cond := some uptoSmall }

/-- 'laws.FnKPackIs', WHERE WHAT IT READS IS OF BULK AT MOST 1048576: true; the input reads as it did. -/
def fnKPackIsUptoRow : OpenClaim := { program := "ytngmpnkhdjnhoaa", sum := "94635a2151709f93050fbc6450f9659e21ca533419f7d2ec705417cc31b707df", func := "loop.example/pub-g03034/laws.FnKPackIs", spec := "fnKPackIs", apart := false, narrowed := true }
def FnKPackIsUptoSaid : Prop := fnKPackIsUptoRow.holds Try.pinned (OpenSpec.upto fnKPackIsSpec)

/-- 'laws.FnKUnpackIs', WHERE WHAT IT READS IS OF BULK AT MOST 1048576: true; the input reads as it did. -/
def fnKUnpackIsUptoRow : OpenClaim := { program := "ytngmpnkhdjnhoaa", sum := "94635a2151709f93050fbc6450f9659e21ca533419f7d2ec705417cc31b707df", func := "loop.example/pub-g03034/laws.FnKUnpackIs", spec := "fnKUnpackIs", apart := false, narrowed := true }
def FnKUnpackIsUptoSaid : Prop := fnKUnpackIsUptoRow.holds Try.pinned (OpenSpec.upto fnKUnpackIsSpec)

/-- 'laws.FnKPackBack', WHERE WHAT IT READS IS OF BULK AT MOST 1048576: true; the input reads as it did. -/
def fnKPackBackUptoRow : OpenClaim := { program := "ytngmpnkhdjnhoaa", sum := "94635a2151709f93050fbc6450f9659e21ca533419f7d2ec705417cc31b707df", func := "loop.example/pub-g03034/laws.FnKPackBack", spec := "fnKPackBack", apart := false, narrowed := true }
def FnKPackBackUptoSaid : Prop := fnKPackBackUptoRow.holds Try.pinned (OpenSpec.upto fnKPackBackSpec)

/-- 'laws.FnKMessageIs', WHERE WHAT IT READS IS OF BULK AT MOST 1048576: true; the input reads as it did. -/
def fnKMessageIsUptoRow : OpenClaim := { program := "ytngmpnkhdjnhoaa", sum := "94635a2151709f93050fbc6450f9659e21ca533419f7d2ec705417cc31b707df", func := "loop.example/pub-g03034/laws.FnKMessageIs", spec := "fnKMessageIs", apart := false, narrowed := true }
def FnKMessageIsUptoSaid : Prop := fnKMessageIsUptoRow.holds Try.pinned (OpenSpec.upto fnKMessageIsSpec)

/-- 'laws.FnKDecompressIs', WHERE WHAT IT READS IS OF BULK AT MOST 1048576: true; the input reads as it did. -/
def fnKDecompressIsUptoRow : OpenClaim := { program := "ytngmpnkhdjnhoaa", sum := "94635a2151709f93050fbc6450f9659e21ca533419f7d2ec705417cc31b707df", func := "loop.example/pub-g03034/laws.FnKDecompressIs", spec := "fnKDecompressIs", apart := false, narrowed := true }
def FnKDecompressIsUptoSaid : Prop := fnKDecompressIsUptoRow.holds Try.pinned (OpenSpec.upto fnKDecompressIsSpec)

/-- 'laws.FnKCompressIs', WHERE WHAT IT READS IS OF BULK AT MOST 1048576: true; the input reads as it did. -/
def fnKCompressIsUptoRow : OpenClaim := { program := "ytngmpnkhdjnhoaa", sum := "94635a2151709f93050fbc6450f9659e21ca533419f7d2ec705417cc31b707df", func := "loop.example/pub-g03034/laws.FnKCompressIs", spec := "fnKCompressIs", apart := false, narrowed := true }
def FnKCompressIsUptoSaid : Prop := fnKCompressIsUptoRow.holds Try.pinned (OpenSpec.upto fnKCompressIsSpec)

/-- 'laws.FnKCompressBack', WHERE WHAT IT READS IS OF BULK AT MOST 1048576: true; the input reads as it did. -/
def fnKCompressBackUptoRow : OpenClaim := { program := "ytngmpnkhdjnhoaa", sum := "94635a2151709f93050fbc6450f9659e21ca533419f7d2ec705417cc31b707df", func := "loop.example/pub-g03034/laws.FnKCompressBack", spec := "fnKCompressBack", apart := false, narrowed := true }
def FnKCompressBackUptoSaid : Prop := fnKCompressBackUptoRow.holds Try.pinned (OpenSpec.upto fnKCompressBackSpec)

end Rows
end Go.Proofs.Ytngmpnkhdjnhoaa
