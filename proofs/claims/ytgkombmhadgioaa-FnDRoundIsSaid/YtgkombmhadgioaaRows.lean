/-
  No cell of these rows narrows 'for every input' (looked for: loops, veiled, ifaces, maps, wideKeys, modest, calm, conditions, laid).
  DERIVED. THE GIVEN ROWS OF THIS SEAT. 12 by the template 'for every input the law returns true; each argument reads behind the call as it read before'; 0 by the template 'total and deterministic' (their statements: YtgkombmhadgioaaTotals.lean).
  GIVEN WITH THE SEED: the statements are not yours to turn. If you find one false, say at which input.
  Laid BY PROGRAM, IN A SANDBOX (cutbox-rows.mjs): the forced cells as the released guide's own fill.sh prints them over the translation 88c7a844d504e343… (all of the seat's roots in one cut). By AI agents, Wed Nov 11 2026. No macro, syntax, notation, axiom, sorry.
-/
import Derived.Test.YtgkombmhadgioaaChecked
import GoSem.Claim
import GoSem.ClaimJoined
import GoSem.ClaimMapViews
import Derived.JoinedTies
import Derived.KernelRfl
namespace Go.Proofs.Ytgkombmhadgioaa
/- THE CELL 'sum', in the pinned program and in every row, IS THE sha256 OF THE DUMP (.gsa) THAT YtgkombmhadgioaaProg.lean LOADS. Nothing in Lean hashes anything: it is a label: what it is worth is what the hold of that sum in a sandbox is worth. -/
noncomputable def Try.pinned : Pinned := { name := "ytgkombmhadgioaa", sum := "88c7a844d504e3438fceff7645d3a2a765d3fd0beef7d5844accceb4dcf813f2", checked := Try.checked }
namespace Rows
def none {H : Type} : Left H := { results := [], args := [] }

/-- 'laws.FnDMontReduceIs': WHATEVER THE INPUT: true; the input reads as it did. -/
def fnDMontReduceIsSpec : ChangeSpec := { name := "fnDMontReduceIs", fn := fun _ => fun
  | [d] => { results := [.lit (.bool true)], args := [d] }
  | _ => none }
def fnDMontReduceIsRow : OpenClaim := { program := "ytgkombmhadgioaa", sum := "88c7a844d504e3438fceff7645d3a2a765d3fd0beef7d5844accceb4dcf813f2", func := "loop.example/pub-g03034/laws.FnDMontReduceIs", spec := "fnDMontReduceIs", apart := false }
def FnDMontReduceIsSaid : Prop := fnDMontReduceIsRow.holds Try.pinned (OpenSpec.ofChange fnDMontReduceIsSpec)

/-- ITS FALSE NEIGHBOUR: 'it returns false'. Refute it at one input. -/
def fnDMontReduceIsWrong : ChangeSpec := { name := "fnDMontReduceIs", fn := fun _ => fun
  | [d] => { results := [.lit (.bool false)], args := [d] }
  | _ => none }
def FnDMontReduceIsWrongFalsely : Prop := fnDMontReduceIsRow.holds Try.pinned (OpenSpec.ofChange fnDMontReduceIsWrong)

/-- 'laws.FnDTimesIs': WHATEVER THE INPUT: true; the input reads as it did. -/
def fnDTimesIsSpec : ChangeSpec := { name := "fnDTimesIs", fn := fun _ => fun
  | [d] => { results := [.lit (.bool true)], args := [d] }
  | _ => none }
def fnDTimesIsRow : OpenClaim := { program := "ytgkombmhadgioaa", sum := "88c7a844d504e3438fceff7645d3a2a765d3fd0beef7d5844accceb4dcf813f2", func := "loop.example/pub-g03034/laws.FnDTimesIs", spec := "fnDTimesIs", apart := false }
def FnDTimesIsSaid : Prop := fnDTimesIsRow.holds Try.pinned (OpenSpec.ofChange fnDTimesIsSpec)

/-- ITS FALSE NEIGHBOUR: 'it returns false'. Refute it at one input. -/
def fnDTimesIsWrong : ChangeSpec := { name := "fnDTimesIs", fn := fun _ => fun
  | [d] => { results := [.lit (.bool false)], args := [d] }
  | _ => none }
def FnDTimesIsWrongFalsely : Prop := fnDTimesIsRow.holds Try.pinned (OpenSpec.ofChange fnDTimesIsWrong)

/-- 'laws.FnDReduceIs': WHATEVER THE INPUT: true; the input reads as it did. -/
def fnDReduceIsSpec : ChangeSpec := { name := "fnDReduceIs", fn := fun _ => fun
  | [d] => { results := [.lit (.bool true)], args := [d] }
  | _ => none }
def fnDReduceIsRow : OpenClaim := { program := "ytgkombmhadgioaa", sum := "88c7a844d504e3438fceff7645d3a2a765d3fd0beef7d5844accceb4dcf813f2", func := "loop.example/pub-g03034/laws.FnDReduceIs", spec := "fnDReduceIs", apart := false }
def FnDReduceIsSaid : Prop := fnDReduceIsRow.holds Try.pinned (OpenSpec.ofChange fnDReduceIsSpec)

/-- ITS FALSE NEIGHBOUR: 'it returns false'. Refute it at one input. -/
def fnDReduceIsWrong : ChangeSpec := { name := "fnDReduceIs", fn := fun _ => fun
  | [d] => { results := [.lit (.bool false)], args := [d] }
  | _ => none }
def FnDReduceIsWrongFalsely : Prop := fnDReduceIsRow.holds Try.pinned (OpenSpec.ofChange fnDReduceIsWrong)

/-- 'laws.FnDModQIs': WHATEVER THE INPUT: true; the input reads as it did. -/
def fnDModQIsSpec : ChangeSpec := { name := "fnDModQIs", fn := fun _ => fun
  | [d] => { results := [.lit (.bool true)], args := [d] }
  | _ => none }
def fnDModQIsRow : OpenClaim := { program := "ytgkombmhadgioaa", sum := "88c7a844d504e3438fceff7645d3a2a765d3fd0beef7d5844accceb4dcf813f2", func := "loop.example/pub-g03034/laws.FnDModQIs", spec := "fnDModQIs", apart := false }
def FnDModQIsSaid : Prop := fnDModQIsRow.holds Try.pinned (OpenSpec.ofChange fnDModQIsSpec)

/-- ITS FALSE NEIGHBOUR: 'it returns false'. Refute it at one input. -/
def fnDModQIsWrong : ChangeSpec := { name := "fnDModQIs", fn := fun _ => fun
  | [d] => { results := [.lit (.bool false)], args := [d] }
  | _ => none }
def FnDModQIsWrongFalsely : Prop := fnDModQIsRow.holds Try.pinned (OpenSpec.ofChange fnDModQIsWrong)

/-- 'laws.FnDExceedsIs': WHATEVER THE INPUT: true; the input reads as it did. -/
def fnDExceedsIsSpec : ChangeSpec := { name := "fnDExceedsIs", fn := fun _ => fun
  | [d1, d2] => { results := [.lit (.bool true)], args := [d1, d2] }
  | _ => none }
def fnDExceedsIsRow : OpenClaim := { program := "ytgkombmhadgioaa", sum := "88c7a844d504e3438fceff7645d3a2a765d3fd0beef7d5844accceb4dcf813f2", func := "loop.example/pub-g03034/laws.FnDExceedsIs", spec := "fnDExceedsIs", apart := false }
def FnDExceedsIsSaid : Prop := fnDExceedsIsRow.holds Try.pinned (OpenSpec.ofChange fnDExceedsIsSpec)

/-- ITS FALSE NEIGHBOUR: 'it returns false'. Refute it at one input. -/
def fnDExceedsIsWrong : ChangeSpec := { name := "fnDExceedsIs", fn := fun _ => fun
  | [d1, d2] => { results := [.lit (.bool false)], args := [d1, d2] }
  | _ => none }
def FnDExceedsIsWrongFalsely : Prop := fnDExceedsIsRow.holds Try.pinned (OpenSpec.ofChange fnDExceedsIsWrong)

/-- 'laws.FnDAddIs': WHATEVER THE INPUT: true; the input reads as it did. -/
def fnDAddIsSpec : ChangeSpec := { name := "fnDAddIs", fn := fun _ => fun
  | [d1, d2] => { results := [.lit (.bool true)], args := [d1, d2] }
  | _ => none }
def fnDAddIsRow : OpenClaim := { program := "ytgkombmhadgioaa", sum := "88c7a844d504e3438fceff7645d3a2a765d3fd0beef7d5844accceb4dcf813f2", func := "loop.example/pub-g03034/laws.FnDAddIs", spec := "fnDAddIs", apart := false }
def FnDAddIsSaid : Prop := fnDAddIsRow.holds Try.pinned (OpenSpec.ofChange fnDAddIsSpec)

/-- ITS FALSE NEIGHBOUR: 'it returns false'. Refute it at one input. -/
def fnDAddIsWrong : ChangeSpec := { name := "fnDAddIs", fn := fun _ => fun
  | [d1, d2] => { results := [.lit (.bool false)], args := [d1, d2] }
  | _ => none }
def FnDAddIsWrongFalsely : Prop := fnDAddIsRow.holds Try.pinned (OpenSpec.ofChange fnDAddIsWrong)

/-- 'laws.FnDRoundIs': WHATEVER THE INPUT: true; the input reads as it did. -/
def fnDRoundIsSpec : ChangeSpec := { name := "fnDRoundIs", fn := fun _ => fun
  | [d] => { results := [.lit (.bool true)], args := [d] }
  | _ => none }
def fnDRoundIsRow : OpenClaim := { program := "ytgkombmhadgioaa", sum := "88c7a844d504e3438fceff7645d3a2a765d3fd0beef7d5844accceb4dcf813f2", func := "loop.example/pub-g03034/laws.FnDRoundIs", spec := "fnDRoundIs", apart := false }
def FnDRoundIsSaid : Prop := fnDRoundIsRow.holds Try.pinned (OpenSpec.ofChange fnDRoundIsSpec)

/-- ITS FALSE NEIGHBOUR: 'it returns false'. Refute it at one input. -/
def fnDRoundIsWrong : ChangeSpec := { name := "fnDRoundIs", fn := fun _ => fun
  | [d] => { results := [.lit (.bool false)], args := [d] }
  | _ => none }
def FnDRoundIsWrongFalsely : Prop := fnDRoundIsRow.holds Try.pinned (OpenSpec.ofChange fnDRoundIsWrong)

/-- 'laws.FnDNormalizeIs': WHATEVER THE INPUT: true; the input reads as it did. -/
def fnDNormalizeIsSpec : ChangeSpec := { name := "fnDNormalizeIs", fn := fun _ => fun
  | [d] => { results := [.lit (.bool true)], args := [d] }
  | _ => none }
def fnDNormalizeIsRow : OpenClaim := { program := "ytgkombmhadgioaa", sum := "88c7a844d504e3438fceff7645d3a2a765d3fd0beef7d5844accceb4dcf813f2", func := "loop.example/pub-g03034/laws.FnDNormalizeIs", spec := "fnDNormalizeIs", apart := false }
def FnDNormalizeIsSaid : Prop := fnDNormalizeIsRow.holds Try.pinned (OpenSpec.ofChange fnDNormalizeIsSpec)

/-- ITS FALSE NEIGHBOUR: 'it returns false'. Refute it at one input. -/
def fnDNormalizeIsWrong : ChangeSpec := { name := "fnDNormalizeIs", fn := fun _ => fun
  | [d] => { results := [.lit (.bool false)], args := [d] }
  | _ => none }
def FnDNormalizeIsWrongFalsely : Prop := fnDNormalizeIsRow.holds Try.pinned (OpenSpec.ofChange fnDNormalizeIsWrong)

/-- 'laws.FnDPackLe16Is': WHATEVER THE INPUT: true; the input reads as it did. -/
def fnDPackLe16IsSpec : ChangeSpec := { name := "fnDPackLe16Is", fn := fun _ => fun
  | [d] => { results := [.lit (.bool true)], args := [d] }
  | _ => none }
def fnDPackLe16IsRow : OpenClaim := { program := "ytgkombmhadgioaa", sum := "88c7a844d504e3438fceff7645d3a2a765d3fd0beef7d5844accceb4dcf813f2", func := "loop.example/pub-g03034/laws.FnDPackLe16Is", spec := "fnDPackLe16Is", apart := false }
def FnDPackLe16IsSaid : Prop := fnDPackLe16IsRow.holds Try.pinned (OpenSpec.ofChange fnDPackLe16IsSpec)

/-- ITS FALSE NEIGHBOUR: 'it returns false'. Refute it at one input. -/
def fnDPackLe16IsWrong : ChangeSpec := { name := "fnDPackLe16Is", fn := fun _ => fun
  | [d] => { results := [.lit (.bool false)], args := [d] }
  | _ => none }
def FnDPackLe16IsWrongFalsely : Prop := fnDPackLe16IsRow.holds Try.pinned (OpenSpec.ofChange fnDPackLe16IsWrong)

/-- 'laws.FnDPackT1Is': WHATEVER THE INPUT: true; the input reads as it did. -/
def fnDPackT1IsSpec : ChangeSpec := { name := "fnDPackT1Is", fn := fun _ => fun
  | [d] => { results := [.lit (.bool true)], args := [d] }
  | _ => none }
def fnDPackT1IsRow : OpenClaim := { program := "ytgkombmhadgioaa", sum := "88c7a844d504e3438fceff7645d3a2a765d3fd0beef7d5844accceb4dcf813f2", func := "loop.example/pub-g03034/laws.FnDPackT1Is", spec := "fnDPackT1Is", apart := false }
def FnDPackT1IsSaid : Prop := fnDPackT1IsRow.holds Try.pinned (OpenSpec.ofChange fnDPackT1IsSpec)

/-- ITS FALSE NEIGHBOUR: 'it returns false'. Refute it at one input. -/
def fnDPackT1IsWrong : ChangeSpec := { name := "fnDPackT1Is", fn := fun _ => fun
  | [d] => { results := [.lit (.bool false)], args := [d] }
  | _ => none }
def FnDPackT1IsWrongFalsely : Prop := fnDPackT1IsRow.holds Try.pinned (OpenSpec.ofChange fnDPackT1IsWrong)

/-- 'laws.FnDPackB60Is': WHATEVER THE INPUT: true; the input reads as it did. -/
def fnDPackB60IsSpec : ChangeSpec := { name := "fnDPackB60Is", fn := fun _ => fun
  | [d] => { results := [.lit (.bool true)], args := [d] }
  | _ => none }
def fnDPackB60IsRow : OpenClaim := { program := "ytgkombmhadgioaa", sum := "88c7a844d504e3438fceff7645d3a2a765d3fd0beef7d5844accceb4dcf813f2", func := "loop.example/pub-g03034/laws.FnDPackB60Is", spec := "fnDPackB60Is", apart := false }
def FnDPackB60IsSaid : Prop := fnDPackB60IsRow.holds Try.pinned (OpenSpec.ofChange fnDPackB60IsSpec)

/-- ITS FALSE NEIGHBOUR: 'it returns false'. Refute it at one input. -/
def fnDPackB60IsWrong : ChangeSpec := { name := "fnDPackB60Is", fn := fun _ => fun
  | [d] => { results := [.lit (.bool false)], args := [d] }
  | _ => none }
def FnDPackB60IsWrongFalsely : Prop := fnDPackB60IsRow.holds Try.pinned (OpenSpec.ofChange fnDPackB60IsWrong)

/-- 'laws.FnDPackT0Is': WHATEVER THE INPUT: true; the input reads as it did. -/
def fnDPackT0IsSpec : ChangeSpec := { name := "fnDPackT0Is", fn := fun _ => fun
  | [d] => { results := [.lit (.bool true)], args := [d] }
  | _ => none }
def fnDPackT0IsRow : OpenClaim := { program := "ytgkombmhadgioaa", sum := "88c7a844d504e3438fceff7645d3a2a765d3fd0beef7d5844accceb4dcf813f2", func := "loop.example/pub-g03034/laws.FnDPackT0Is", spec := "fnDPackT0Is", apart := false }
def FnDPackT0IsSaid : Prop := fnDPackT0IsRow.holds Try.pinned (OpenSpec.ofChange fnDPackT0IsSpec)

/-- ITS FALSE NEIGHBOUR: 'it returns false'. Refute it at one input. -/
def fnDPackT0IsWrong : ChangeSpec := { name := "fnDPackT0Is", fn := fun _ => fun
  | [d] => { results := [.lit (.bool false)], args := [d] }
  | _ => none }
def FnDPackT0IsWrongFalsely : Prop := fnDPackT0IsRow.holds Try.pinned (OpenSpec.ofChange fnDPackT0IsWrong)

/- THE SECOND FORM. 'bulk': how many values and letters a reading holds, each counted each time it is reached (what is shared counts as often as it is met; a slice's spare places count too). A statement '..UptoSaid' is the law's where the arguments, and the package variables that the reading takes, are together of bulk at most 1048576: NARROWER than '..Said'. Prove '..Said' where nothing that the law and all that it calls make is longer than what came in: it says more and counts as full. Else prove '..UptoSaid'. A law counts once. -/
mutual
def uptoBulk {H : Type} : DataW H → Nat
  | .lit (.string bytes) => bytes.length + 1
  | .lit _ => 1
  | .nil => 1
  | .ptr d => uptoBulk d + 1
  | .slice elems spare => uptoBulkAll elems + uptoBulkAll spare + 1
  | .agg parts => uptoBulkAll parts + 1
  | .iface _ d => uptoBulk d + 1
  | .map entries => uptoBulkEntries entries + 1
  | .held _ => 1
def uptoBulkAll {H : Type} : List (DataW H) → Nat
  | [] => 0
  | d :: r => uptoBulk d + uptoBulkAll r
def uptoBulkEntries {H : Type} : List (Lit × DataW H) → Nat
  | [] => 0
  | x :: r => uptoBulkEntry x + uptoBulkEntries r
def uptoBulkEntry {H : Type} : Lit × DataW H → Nat
  | (.string bytes, d) => bytes.length + uptoBulk d + 1
  | (_, d) => uptoBulk d + 1
 end
def uptoSmall : (H : Type) → List (DataW H) → Bool := fun _ ds => decide (uptoBulkAll ds ≤ 1048576)
def OpenSpec.upto (s : _root_.Go.ChangeSpec) : _root_.Go.OpenSpec := { _root_.Go.OpenSpec.ofChange s with cond := some uptoSmall }

/-- 'laws.FnDMontReduceIs', WHERE WHAT IT READS IS OF BULK AT MOST 1048576: true; the input reads as it did. -/
def fnDMontReduceIsUptoRow : OpenClaim := { program := "ytgkombmhadgioaa", sum := "88c7a844d504e3438fceff7645d3a2a765d3fd0beef7d5844accceb4dcf813f2", func := "loop.example/pub-g03034/laws.FnDMontReduceIs", spec := "fnDMontReduceIs", apart := false, narrowed := true }
def FnDMontReduceIsUptoSaid : Prop := fnDMontReduceIsUptoRow.holds Try.pinned (OpenSpec.upto fnDMontReduceIsSpec)

/-- 'laws.FnDTimesIs', WHERE WHAT IT READS IS OF BULK AT MOST 1048576: true; the input reads as it did. -/
def fnDTimesIsUptoRow : OpenClaim := { program := "ytgkombmhadgioaa", sum := "88c7a844d504e3438fceff7645d3a2a765d3fd0beef7d5844accceb4dcf813f2", func := "loop.example/pub-g03034/laws.FnDTimesIs", spec := "fnDTimesIs", apart := false, narrowed := true }
def FnDTimesIsUptoSaid : Prop := fnDTimesIsUptoRow.holds Try.pinned (OpenSpec.upto fnDTimesIsSpec)

/-- 'laws.FnDReduceIs', WHERE WHAT IT READS IS OF BULK AT MOST 1048576: true; the input reads as it did. -/
def fnDReduceIsUptoRow : OpenClaim := { program := "ytgkombmhadgioaa", sum := "88c7a844d504e3438fceff7645d3a2a765d3fd0beef7d5844accceb4dcf813f2", func := "loop.example/pub-g03034/laws.FnDReduceIs", spec := "fnDReduceIs", apart := false, narrowed := true }
def FnDReduceIsUptoSaid : Prop := fnDReduceIsUptoRow.holds Try.pinned (OpenSpec.upto fnDReduceIsSpec)

/-- 'laws.FnDModQIs', WHERE WHAT IT READS IS OF BULK AT MOST 1048576: true; the input reads as it did. -/
def fnDModQIsUptoRow : OpenClaim := { program := "ytgkombmhadgioaa", sum := "88c7a844d504e3438fceff7645d3a2a765d3fd0beef7d5844accceb4dcf813f2", func := "loop.example/pub-g03034/laws.FnDModQIs", spec := "fnDModQIs", apart := false, narrowed := true }
def FnDModQIsUptoSaid : Prop := fnDModQIsUptoRow.holds Try.pinned (OpenSpec.upto fnDModQIsSpec)

/-- 'laws.FnDExceedsIs', WHERE WHAT IT READS IS OF BULK AT MOST 1048576: true; the input reads as it did. -/
def fnDExceedsIsUptoRow : OpenClaim := { program := "ytgkombmhadgioaa", sum := "88c7a844d504e3438fceff7645d3a2a765d3fd0beef7d5844accceb4dcf813f2", func := "loop.example/pub-g03034/laws.FnDExceedsIs", spec := "fnDExceedsIs", apart := false, narrowed := true }
def FnDExceedsIsUptoSaid : Prop := fnDExceedsIsUptoRow.holds Try.pinned (OpenSpec.upto fnDExceedsIsSpec)

/-- 'laws.FnDAddIs', WHERE WHAT IT READS IS OF BULK AT MOST 1048576: true; the input reads as it did. -/
def fnDAddIsUptoRow : OpenClaim := { program := "ytgkombmhadgioaa", sum := "88c7a844d504e3438fceff7645d3a2a765d3fd0beef7d5844accceb4dcf813f2", func := "loop.example/pub-g03034/laws.FnDAddIs", spec := "fnDAddIs", apart := false, narrowed := true }
def FnDAddIsUptoSaid : Prop := fnDAddIsUptoRow.holds Try.pinned (OpenSpec.upto fnDAddIsSpec)

/-- 'laws.FnDRoundIs', WHERE WHAT IT READS IS OF BULK AT MOST 1048576: true; the input reads as it did. -/
def fnDRoundIsUptoRow : OpenClaim := { program := "ytgkombmhadgioaa", sum := "88c7a844d504e3438fceff7645d3a2a765d3fd0beef7d5844accceb4dcf813f2", func := "loop.example/pub-g03034/laws.FnDRoundIs", spec := "fnDRoundIs", apart := false, narrowed := true }
def FnDRoundIsUptoSaid : Prop := fnDRoundIsUptoRow.holds Try.pinned (OpenSpec.upto fnDRoundIsSpec)

/-- 'laws.FnDNormalizeIs', WHERE WHAT IT READS IS OF BULK AT MOST 1048576: true; the input reads as it did. -/
def fnDNormalizeIsUptoRow : OpenClaim := { program := "ytgkombmhadgioaa", sum := "88c7a844d504e3438fceff7645d3a2a765d3fd0beef7d5844accceb4dcf813f2", func := "loop.example/pub-g03034/laws.FnDNormalizeIs", spec := "fnDNormalizeIs", apart := false, narrowed := true }
def FnDNormalizeIsUptoSaid : Prop := fnDNormalizeIsUptoRow.holds Try.pinned (OpenSpec.upto fnDNormalizeIsSpec)

/-- 'laws.FnDPackLe16Is', WHERE WHAT IT READS IS OF BULK AT MOST 1048576: true; the input reads as it did. -/
def fnDPackLe16IsUptoRow : OpenClaim := { program := "ytgkombmhadgioaa", sum := "88c7a844d504e3438fceff7645d3a2a765d3fd0beef7d5844accceb4dcf813f2", func := "loop.example/pub-g03034/laws.FnDPackLe16Is", spec := "fnDPackLe16Is", apart := false, narrowed := true }
def FnDPackLe16IsUptoSaid : Prop := fnDPackLe16IsUptoRow.holds Try.pinned (OpenSpec.upto fnDPackLe16IsSpec)

/-- 'laws.FnDPackT1Is', WHERE WHAT IT READS IS OF BULK AT MOST 1048576: true; the input reads as it did. -/
def fnDPackT1IsUptoRow : OpenClaim := { program := "ytgkombmhadgioaa", sum := "88c7a844d504e3438fceff7645d3a2a765d3fd0beef7d5844accceb4dcf813f2", func := "loop.example/pub-g03034/laws.FnDPackT1Is", spec := "fnDPackT1Is", apart := false, narrowed := true }
def FnDPackT1IsUptoSaid : Prop := fnDPackT1IsUptoRow.holds Try.pinned (OpenSpec.upto fnDPackT1IsSpec)

/-- 'laws.FnDPackB60Is', WHERE WHAT IT READS IS OF BULK AT MOST 1048576: true; the input reads as it did. -/
def fnDPackB60IsUptoRow : OpenClaim := { program := "ytgkombmhadgioaa", sum := "88c7a844d504e3438fceff7645d3a2a765d3fd0beef7d5844accceb4dcf813f2", func := "loop.example/pub-g03034/laws.FnDPackB60Is", spec := "fnDPackB60Is", apart := false, narrowed := true }
def FnDPackB60IsUptoSaid : Prop := fnDPackB60IsUptoRow.holds Try.pinned (OpenSpec.upto fnDPackB60IsSpec)

/-- 'laws.FnDPackT0Is', WHERE WHAT IT READS IS OF BULK AT MOST 1048576: true; the input reads as it did. -/
def fnDPackT0IsUptoRow : OpenClaim := { program := "ytgkombmhadgioaa", sum := "88c7a844d504e3438fceff7645d3a2a765d3fd0beef7d5844accceb4dcf813f2", func := "loop.example/pub-g03034/laws.FnDPackT0Is", spec := "fnDPackT0Is", apart := false, narrowed := true }
def FnDPackT0IsUptoSaid : Prop := fnDPackT0IsUptoRow.holds Try.pinned (OpenSpec.upto fnDPackT0IsSpec)

end Rows
end Go.Proofs.Ytgkombmhadgioaa
