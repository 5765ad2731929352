/-
  DERIVED. GIVEN WITH THE SEED: THE CARDS: each row of YtgojphoejmbliaaDoorRows.lean that lists a variable, with what it lists TIED to the program's text (the seventh form; the later family's looks); each row that meets fmt, with fmt's text TOLD by the authors' own Lean function (tested against real Go, not proved from fmt's source: count such statements apart). THE CARD IS WHAT COUNTS. Prove the row's statement (the work); the ties are given (YtgojphoejmbliaaDoorTie.lean); close each card by the builder's one call (the guide's Derived/Test/ToyasCard.lean, 'card_holds'). Laid BY PROGRAM, IN A SANDBOX (cutbox-door.mjs). By AI agents, Wed Nov 11 2026. No macro, syntax, notation, axiom, sorry.
-/
import Derived.Test.YtgojphoejmbliaaDoorRows
import GoSem.ClaimSeven
namespace Go.Proofs.YtgojphoejmbliaaDoor
namespace Rows

/-- THE TIED CARD OF 'laws.FnKProduct'. -/
def fnKProductCard : Claim7 := { stood := { row := fnKProductRow, standIns := [], harness := (true, "7045aa18d26a2a1b269d034617ba32282980d1ab754b7f3705ba3916dc9b88d1"), looks := false }, kinds := [], alts := [], laidByText := true, laidKinds := [.data, .data], laidTests := true, laidLooks := .later }
def FnKProductCardSaid : Prop := Claim7.holds Tryd.pinned (.plain (OpenSpec.ofChange fnKProductSpec)) fnKProductCard

/-- THE SECOND FORM's CARD OF 'laws.FnKProduct'. -/
def fnKProductUptoCard : Claim7 := { stood := { row := fnKProductUptoRow, standIns := [], harness := (true, "7045aa18d26a2a1b269d034617ba32282980d1ab754b7f3705ba3916dc9b88d1"), looks := false }, kinds := [], alts := [], laidByText := true, laidKinds := [.data, .data], laidTests := true, laidLooks := .later }
def FnKProductUptoCardSaid : Prop := Claim7.holds Tryd.pinned (.plain (OpenSpec.upto fnKProductSpec)) fnKProductUptoCard
end Rows
end Go.Proofs.YtgojphoejmbliaaDoor
