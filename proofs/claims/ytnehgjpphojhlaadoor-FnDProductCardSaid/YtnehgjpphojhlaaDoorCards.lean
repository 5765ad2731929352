/-
  DERIVED. GIVEN WITH THE SEED: THE CARDS: each row of YtnehgjpphojhlaaDoorRows.lean that lists a variable, with what it lists TIED to the program's text (the seventh form; the later family's looks); each row that meets fmt, with fmt's text TOLD by the authors' own Lean function (tested against real Go, not proved from fmt's source: count such statements apart). THE CARD IS WHAT COUNTS. Prove the row's statement (the work); the ties are given (YtnehgjpphojhlaaDoorTie.lean); close each card by the builder's one call (the guide's Derived/Test/ToyasCard.lean, 'card_holds'). Laid BY PROGRAM, IN A SANDBOX (cutbox-door.mjs). By AI agents, Wed Nov 11 2026. No macro, syntax, notation, axiom, sorry.
-/
import Derived.Test.YtnehgjpphojhlaaDoorRows
import GoSem.ClaimSeven
namespace Go.Proofs.YtnehgjpphojhlaaDoor
namespace Rows

/-- THE TIED CARD OF 'laws.FnDZetaIs'. -/
def fnDZetaIsCard : Claim7 := { stood := { row := fnDZetaIsRow, standIns := [], harness := (true, "8af8a6774ef1274fa38da67b165748d8a180fcb901389a38725b1c3a44e7d3fa"), looks := false }, kinds := [], alts := [], laidByText := true, laidKinds := [.data, .data], laidTests := true, laidLooks := .later }
def FnDZetaIsCardSaid : Prop := Claim7.holds Tryd.pinned (.plain (OpenSpec.ofChange fnDZetaIsSpec)) fnDZetaIsCard

/-- THE TIED CARD OF 'laws.FnDNTTIs'. -/
def fnDNTTIsCard : Claim7 := { stood := { row := fnDNTTIsRow, standIns := [], harness := (true, "8af8a6774ef1274fa38da67b165748d8a180fcb901389a38725b1c3a44e7d3fa"), looks := false }, kinds := [], alts := [], laidByText := true, laidKinds := [.data], laidTests := true, laidLooks := .later }
def FnDNTTIsCardSaid : Prop := Claim7.holds Tryd.pinned (.plain (OpenSpec.ofChange fnDNTTIsSpec)) fnDNTTIsCard

/-- THE TIED CARD OF 'laws.FnDNTTBack'. -/
def fnDNTTBackCard : Claim7 := { stood := { row := fnDNTTBackRow, standIns := [], harness := (true, "8af8a6774ef1274fa38da67b165748d8a180fcb901389a38725b1c3a44e7d3fa"), looks := false }, kinds := [], alts := [], laidByText := true, laidKinds := [.data, .data], laidTests := true, laidLooks := .later }
def FnDNTTBackCardSaid : Prop := Claim7.holds Tryd.pinned (.plain (OpenSpec.ofChange fnDNTTBackSpec)) fnDNTTBackCard

/-- THE TIED CARD OF 'laws.FnDProduct'. -/
def fnDProductCard : Claim7 := { stood := { row := fnDProductRow, standIns := [], harness := (true, "8af8a6774ef1274fa38da67b165748d8a180fcb901389a38725b1c3a44e7d3fa"), looks := false }, kinds := [], alts := [], laidByText := true, laidKinds := [.data, .data], laidTests := true, laidLooks := .later }
def FnDProductCardSaid : Prop := Claim7.holds Tryd.pinned (.plain (OpenSpec.ofChange fnDProductSpec)) fnDProductCard

/-- THE SECOND FORM's CARD OF 'laws.FnDZetaIs'. -/
def fnDZetaIsUptoCard : Claim7 := { stood := { row := fnDZetaIsUptoRow, standIns := [], harness := (true, "8af8a6774ef1274fa38da67b165748d8a180fcb901389a38725b1c3a44e7d3fa"), looks := false }, kinds := [], alts := [], laidByText := true, laidKinds := [.data, .data], laidTests := true, laidLooks := .later }
def FnDZetaIsUptoCardSaid : Prop := Claim7.holds Tryd.pinned (.plain (OpenSpec.upto fnDZetaIsSpec)) fnDZetaIsUptoCard

/-- THE SECOND FORM's CARD OF 'laws.FnDNTTIs'. -/
def fnDNTTIsUptoCard : Claim7 := { stood := { row := fnDNTTIsUptoRow, standIns := [], harness := (true, "8af8a6774ef1274fa38da67b165748d8a180fcb901389a38725b1c3a44e7d3fa"), looks := false }, kinds := [], alts := [], laidByText := true, laidKinds := [.data], laidTests := true, laidLooks := .later }
def FnDNTTIsUptoCardSaid : Prop := Claim7.holds Tryd.pinned (.plain (OpenSpec.upto fnDNTTIsSpec)) fnDNTTIsUptoCard

/-- THE SECOND FORM's CARD OF 'laws.FnDNTTBack'. -/
def fnDNTTBackUptoCard : Claim7 := { stood := { row := fnDNTTBackUptoRow, standIns := [], harness := (true, "8af8a6774ef1274fa38da67b165748d8a180fcb901389a38725b1c3a44e7d3fa"), looks := false }, kinds := [], alts := [], laidByText := true, laidKinds := [.data, .data], laidTests := true, laidLooks := .later }
def FnDNTTBackUptoCardSaid : Prop := Claim7.holds Tryd.pinned (.plain (OpenSpec.upto fnDNTTBackSpec)) fnDNTTBackUptoCard

/-- THE SECOND FORM's CARD OF 'laws.FnDProduct'. -/
def fnDProductUptoCard : Claim7 := { stood := { row := fnDProductUptoRow, standIns := [], harness := (true, "8af8a6774ef1274fa38da67b165748d8a180fcb901389a38725b1c3a44e7d3fa"), looks := false }, kinds := [], alts := [], laidByText := true, laidKinds := [.data, .data], laidTests := true, laidLooks := .later }
def FnDProductUptoCardSaid : Prop := Claim7.holds Tryd.pinned (.plain (OpenSpec.upto fnDProductSpec)) fnDProductUptoCard
end Rows
end Go.Proofs.YtnehgjpphojhlaaDoor
