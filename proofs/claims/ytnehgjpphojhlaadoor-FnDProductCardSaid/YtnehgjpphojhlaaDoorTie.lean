/-
  DERIVED. GIVEN WITH THE SEED: THE PROGRAM's TIES (one call each: nine closed facts by the kernel) AND EACH ROW's TIE, after the 31st guide's Derived/Test/Toyas{Tie, Card}.lean. No idea stands in it: it is a product of the set-up. Laid BY PROGRAM, IN A SANDBOX (cutbox-door.mjs). By AI agents, Wed Nov 11 2026. No macro, syntax, notation, axiom, sorry.
-/
import Derived.Test.YtnehgjpphojhlaaDoorRows
import Derived.LaidByTextLater
import Derived.SevenTiedAt
import Derived.LaidSub
import Derived.LaidOnce
namespace Go.Proofs.YtnehgjpphojhlaaDoor
open Go
set_option maxRecDepth 100000
theorem seatTie1 : Tryd.prog.laidByTextLater [("loop.example/pub-g03034/pub/circl/dilithium.Zetas", Rows.laid_loop_example_pub_g03034_pub_circl_dilithium_Zetas), ("loop.example/pub-g03034/pub/circl/dilithium.InvZetas", Rows.laid_loop_example_pub_g03034_pub_circl_dilithium_InvZetas)] [.data, .data] true :=
  Program.laidByTextLater_by_one 19 8 257 (by kernel_rfl) (by kernel_rfl) (by kernel_rfl) (by kernel_rfl) (by kernel_rfl) (by kernel_rfl) (fun _ _ => by kernel_rfl)
theorem seatTie2 : Tryd.prog.laidByTextLater [("loop.example/pub-g03034/pub/circl/dilithium.Zetas", Rows.laid_loop_example_pub_g03034_pub_circl_dilithium_Zetas)] [.data] true :=
  Program.laidByTextLater_by_one 19 8 257 (by kernel_rfl) (by kernel_rfl) (by kernel_rfl) (by kernel_rfl) (by kernel_rfl) (by kernel_rfl) (fun _ _ => by kernel_rfl)
theorem noOwnUnsafe : Tryd.pinned.checked.prog.headLifts.contains "ownunsafe" = false := by kernel_rfl
theorem tie : Tryd.prog.laidByTextLater [("loop.example/pub-g03034/pub/circl/dilithium.Zetas", Rows.laid_loop_example_pub_g03034_pub_circl_dilithium_Zetas), ("loop.example/pub-g03034/pub/circl/dilithium.InvZetas", Rows.laid_loop_example_pub_g03034_pub_circl_dilithium_InvZetas)] [.data, .data] true :=
  Program.laidByTextLater.sub seatTie1 ["loop.example/pub-g03034/pub/circl/dilithium.Zetas", "loop.example/pub-g03034/pub/circl/dilithium.InvZetas"] (by kernel_rfl) (by kernel_rfl)
theorem fnDZetaIs_row_tie : Rows.fnDZetaIsRow.laidByTextAt .later Tryd.pinned [.data, .data] true :=
  OpenClaim.laidByTextAt_later rfl rfl tie noOwnUnsafe
theorem fnDNTTBack_row_tie : Rows.fnDNTTBackRow.laidByTextAt .later Tryd.pinned [.data, .data] true :=
  OpenClaim.laidByTextAt_later rfl rfl tie noOwnUnsafe
theorem fnDProduct_row_tie : Rows.fnDProductRow.laidByTextAt .later Tryd.pinned [.data, .data] true :=
  OpenClaim.laidByTextAt_later rfl rfl tie noOwnUnsafe
theorem tie2 : Tryd.prog.laidByTextLater [("loop.example/pub-g03034/pub/circl/dilithium.Zetas", Rows.laid_loop_example_pub_g03034_pub_circl_dilithium_Zetas)] [.data] true :=
  Program.laidByTextLater.sub seatTie2 ["loop.example/pub-g03034/pub/circl/dilithium.Zetas"] (by kernel_rfl) (by kernel_rfl)
theorem fnDNTTIs_row_tie : Rows.fnDNTTIsRow.laidByTextAt .later Tryd.pinned [.data] true :=
  OpenClaim.laidByTextAt_later rfl rfl tie2 noOwnUnsafe
theorem fnDZetaIsUpto_row_tie : Rows.fnDZetaIsUptoRow.laidByTextAt .later Tryd.pinned [.data, .data] true :=
  OpenClaim.laidByTextAt_later rfl rfl tie noOwnUnsafe
theorem fnDNTTIsUpto_row_tie : Rows.fnDNTTIsUptoRow.laidByTextAt .later Tryd.pinned [.data] true :=
  OpenClaim.laidByTextAt_later rfl rfl tie2 noOwnUnsafe
theorem fnDNTTBackUpto_row_tie : Rows.fnDNTTBackUptoRow.laidByTextAt .later Tryd.pinned [.data, .data] true :=
  OpenClaim.laidByTextAt_later rfl rfl tie noOwnUnsafe
theorem fnDProductUpto_row_tie : Rows.fnDProductUptoRow.laidByTextAt .later Tryd.pinned [.data, .data] true :=
  OpenClaim.laidByTextAt_later rfl rfl tie noOwnUnsafe
end Go.Proofs.YtnehgjpphojhlaaDoor
