/-
  DERIVED. GIVEN WITH THE SEED: THE PROGRAM's TIES (one call each: nine closed facts by the kernel) AND EACH ROW's TIE, after the 31st guide's Derived/Test/Toyas{Tie, Card}.lean. No idea stands in it: it is a product of the set-up. Laid BY PROGRAM, IN A SANDBOX (cutbox-door.mjs). By AI agents, Wed Nov 11 2026. No macro, syntax, notation, axiom, sorry.
-/
import Derived.Test.YtidgcjmgekeapaaDoorRows
import Derived.LaidByTextLater
import Derived.SevenTiedAt
import Derived.LaidSub
import Derived.LaidOnce
namespace Go.Proofs.YtidgcjmgekeapaaDoor
open Go
set_option maxRecDepth 100000
theorem seatTie1 : Tryd.prog.laidByTextLater [("loop.example/pub-g03034/pub/circl/kyber.Zetas", Rows.laid_loop_example_pub_g03034_pub_circl_kyber_Zetas), ("loop.example/pub-g03034/pub/circl/kyber.InvNTTReductions", Rows.laid_loop_example_pub_g03034_pub_circl_kyber_InvNTTReductions)] [.data, .data] true :=
  Program.laidByTextLater_by_one 19 8 129 (by kernel_rfl) (by kernel_rfl) (by kernel_rfl) (by kernel_rfl) (by kernel_rfl) (by kernel_rfl) (fun _ _ => by kernel_rfl)
theorem noOwnUnsafe : Tryd.pinned.checked.prog.headLifts.contains "ownunsafe" = false := by kernel_rfl
theorem tie : Tryd.prog.laidByTextLater [("loop.example/pub-g03034/pub/circl/kyber.Zetas", Rows.laid_loop_example_pub_g03034_pub_circl_kyber_Zetas)] [.data] true :=
  Program.laidByTextLater.sub seatTie1 ["loop.example/pub-g03034/pub/circl/kyber.Zetas"] (by kernel_rfl) (by kernel_rfl)
theorem fnKZetaIs_row_tie : Rows.fnKZetaIsRow.laidByTextAt .later Tryd.pinned [.data] true :=
  OpenClaim.laidByTextAt_later rfl rfl tie noOwnUnsafe
theorem fnKNTTIs_row_tie : Rows.fnKNTTIsRow.laidByTextAt .later Tryd.pinned [.data] true :=
  OpenClaim.laidByTextAt_later rfl rfl tie noOwnUnsafe
theorem tie2 : Tryd.prog.laidByTextLater [("loop.example/pub-g03034/pub/circl/kyber.Zetas", Rows.laid_loop_example_pub_g03034_pub_circl_kyber_Zetas), ("loop.example/pub-g03034/pub/circl/kyber.InvNTTReductions", Rows.laid_loop_example_pub_g03034_pub_circl_kyber_InvNTTReductions)] [.data, .data] true :=
  Program.laidByTextLater.sub seatTie1 ["loop.example/pub-g03034/pub/circl/kyber.Zetas", "loop.example/pub-g03034/pub/circl/kyber.InvNTTReductions"] (by kernel_rfl) (by kernel_rfl)
theorem fnKProduct_row_tie : Rows.fnKProductRow.laidByTextAt .later Tryd.pinned [.data, .data] true :=
  OpenClaim.laidByTextAt_later rfl rfl tie2 noOwnUnsafe
theorem fnKNTTForth_row_tie : Rows.fnKNTTForthRow.laidByTextAt .later Tryd.pinned [.data, .data] true :=
  OpenClaim.laidByTextAt_later rfl rfl tie2 noOwnUnsafe
theorem fnKNTTBack_row_tie : Rows.fnKNTTBackRow.laidByTextAt .later Tryd.pinned [.data, .data] true :=
  OpenClaim.laidByTextAt_later rfl rfl tie2 noOwnUnsafe
theorem fnKZetaIsUpto_row_tie : Rows.fnKZetaIsUptoRow.laidByTextAt .later Tryd.pinned [.data] true :=
  OpenClaim.laidByTextAt_later rfl rfl tie noOwnUnsafe
theorem fnKProductUpto_row_tie : Rows.fnKProductUptoRow.laidByTextAt .later Tryd.pinned [.data, .data] true :=
  OpenClaim.laidByTextAt_later rfl rfl tie2 noOwnUnsafe
theorem fnKNTTIsUpto_row_tie : Rows.fnKNTTIsUptoRow.laidByTextAt .later Tryd.pinned [.data] true :=
  OpenClaim.laidByTextAt_later rfl rfl tie noOwnUnsafe
theorem fnKNTTForthUpto_row_tie : Rows.fnKNTTForthUptoRow.laidByTextAt .later Tryd.pinned [.data, .data] true :=
  OpenClaim.laidByTextAt_later rfl rfl tie2 noOwnUnsafe
theorem fnKNTTBackUpto_row_tie : Rows.fnKNTTBackUptoRow.laidByTextAt .later Tryd.pinned [.data, .data] true :=
  OpenClaim.laidByTextAt_later rfl rfl tie2 noOwnUnsafe
end Go.Proofs.YtidgcjmgekeapaaDoor
