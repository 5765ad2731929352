/-
  DERIVED. GIVEN WITH THE SEED: THE CARDS: each row of YtidgcjmgekeapaaDoorRows.lean that lists a variable, with what it lists TIED to the program's text (the seventh form; the later family's looks); each row that meets fmt, with fmt's text TOLD by the authors' own Lean function (tested against real Go, not proved from fmt's source: count such statements apart). THE CARD IS WHAT COUNTS. Prove the row's statement (the work); the ties are given (YtidgcjmgekeapaaDoorTie.lean); close each card by the builder's one call (the guide's Derived/Test/ToyasCard.lean, 'card_holds'). Laid BY PROGRAM, IN A SANDBOX (cutbox-door.mjs). By AI agents, Wed Nov 11 2026. No macro, syntax, notation, axiom, sorry.
-/
import Derived.Test.YtidgcjmgekeapaaDoorRows
import GoSem.ClaimSeven
namespace Go.Proofs.YtidgcjmgekeapaaDoor
namespace Rows

/-- THE TIED CARD OF 'laws.FnKZetaIs'. -/
def fnKZetaIsCard : Claim7 := { stood := { row := fnKZetaIsRow, standIns := [], harness := (true, "e71f16e45834df4349129caea7cc58217d6996e1b89ac1802a48ab5fad0e859a"), looks := false }, kinds := [], alts := [], laidByText := true, laidKinds := [.data], laidTests := true, laidLooks := .later }
def FnKZetaIsCardSaid : Prop := Claim7.holds Tryd.pinned (.plain (OpenSpec.ofChange fnKZetaIsSpec)) fnKZetaIsCard

/-- THE TIED CARD OF 'laws.FnKProduct'. -/
def fnKProductCard : Claim7 := { stood := { row := fnKProductRow, standIns := [], harness := (true, "e71f16e45834df4349129caea7cc58217d6996e1b89ac1802a48ab5fad0e859a"), looks := false }, kinds := [], alts := [], laidByText := true, laidKinds := [.data, .data], laidTests := true, laidLooks := .later }
def FnKProductCardSaid : Prop := Claim7.holds Tryd.pinned (.plain (OpenSpec.ofChange fnKProductSpec)) fnKProductCard

/-- THE TIED CARD OF 'laws.FnKNTTIs'. -/
def fnKNTTIsCard : Claim7 := { stood := { row := fnKNTTIsRow, standIns := [], harness := (true, "e71f16e45834df4349129caea7cc58217d6996e1b89ac1802a48ab5fad0e859a"), looks := false }, kinds := [], alts := [], laidByText := true, laidKinds := [.data], laidTests := true, laidLooks := .later }
def FnKNTTIsCardSaid : Prop := Claim7.holds Tryd.pinned (.plain (OpenSpec.ofChange fnKNTTIsSpec)) fnKNTTIsCard

/-- THE TIED CARD OF 'laws.FnKNTTForth'. -/
def fnKNTTForthCard : Claim7 := { stood := { row := fnKNTTForthRow, standIns := [], harness := (true, "e71f16e45834df4349129caea7cc58217d6996e1b89ac1802a48ab5fad0e859a"), looks := false }, kinds := [], alts := [], laidByText := true, laidKinds := [.data, .data], laidTests := true, laidLooks := .later }
def FnKNTTForthCardSaid : Prop := Claim7.holds Tryd.pinned (.plain (OpenSpec.ofChange fnKNTTForthSpec)) fnKNTTForthCard

/-- THE TIED CARD OF 'laws.FnKNTTBack'. -/
def fnKNTTBackCard : Claim7 := { stood := { row := fnKNTTBackRow, standIns := [], harness := (true, "e71f16e45834df4349129caea7cc58217d6996e1b89ac1802a48ab5fad0e859a"), looks := false }, kinds := [], alts := [], laidByText := true, laidKinds := [.data, .data], laidTests := true, laidLooks := .later }
def FnKNTTBackCardSaid : Prop := Claim7.holds Tryd.pinned (.plain (OpenSpec.ofChange fnKNTTBackSpec)) fnKNTTBackCard

/-- THE SECOND FORM's CARD OF 'laws.FnKZetaIs'. -/
def fnKZetaIsUptoCard : Claim7 := { stood := { row := fnKZetaIsUptoRow, standIns := [], harness := (true, "e71f16e45834df4349129caea7cc58217d6996e1b89ac1802a48ab5fad0e859a"), looks := false }, kinds := [], alts := [], laidByText := true, laidKinds := [.data], laidTests := true, laidLooks := .later }
def FnKZetaIsUptoCardSaid : Prop := Claim7.holds Tryd.pinned (.plain (OpenSpec.upto fnKZetaIsSpec)) fnKZetaIsUptoCard

/-- THE SECOND FORM's CARD OF 'laws.FnKProduct'. -/
def fnKProductUptoCard : Claim7 := { stood := { row := fnKProductUptoRow, standIns := [], harness := (true, "e71f16e45834df4349129caea7cc58217d6996e1b89ac1802a48ab5fad0e859a"), looks := false }, kinds := [], alts := [], laidByText := true, laidKinds := [.data, .data], laidTests := true, laidLooks := .later }
def FnKProductUptoCardSaid : Prop := Claim7.holds Tryd.pinned (.plain (OpenSpec.upto fnKProductSpec)) fnKProductUptoCard

/-- THE SECOND FORM's CARD OF 'laws.FnKNTTIs'. -/
def fnKNTTIsUptoCard : Claim7 := { stood := { row := fnKNTTIsUptoRow, standIns := [], harness := (true, "e71f16e45834df4349129caea7cc58217d6996e1b89ac1802a48ab5fad0e859a"), looks := false }, kinds := [], alts := [], laidByText := true, laidKinds := [.data], laidTests := true, laidLooks := .later }
def FnKNTTIsUptoCardSaid : Prop := Claim7.holds Tryd.pinned (.plain (OpenSpec.upto fnKNTTIsSpec)) fnKNTTIsUptoCard

/-- THE SECOND FORM's CARD OF 'laws.FnKNTTForth'. -/
def fnKNTTForthUptoCard : Claim7 := { stood := { row := fnKNTTForthUptoRow, standIns := [], harness := (true, "e71f16e45834df4349129caea7cc58217d6996e1b89ac1802a48ab5fad0e859a"), looks := false }, kinds := [], alts := [], laidByText := true, laidKinds := [.data, .data], laidTests := true, laidLooks := .later }
def FnKNTTForthUptoCardSaid : Prop := Claim7.holds Tryd.pinned (.plain (OpenSpec.upto fnKNTTForthSpec)) fnKNTTForthUptoCard

/-- THE SECOND FORM's CARD OF 'laws.FnKNTTBack'. -/
def fnKNTTBackUptoCard : Claim7 := { stood := { row := fnKNTTBackUptoRow, standIns := [], harness := (true, "e71f16e45834df4349129caea7cc58217d6996e1b89ac1802a48ab5fad0e859a"), looks := false }, kinds := [], alts := [], laidByText := true, laidKinds := [.data, .data], laidTests := true, laidLooks := .later }
def FnKNTTBackUptoCardSaid : Prop := Claim7.holds Tryd.pinned (.plain (OpenSpec.upto fnKNTTBackSpec)) fnKNTTBackUptoCard
end Rows
end Go.Proofs.YtidgcjmgekeapaaDoor
