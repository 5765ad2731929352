/- The table of reductions (Kyber): its numbers. -/
import Derived.Test.YtgojphoejmbliaaDoorLib
namespace Go.Proofs.YtgojphoejmbliaaDoor
open Go Go.Proofs Go.RowKit Go.Kd
def rs : List Int := [-1, -1, 16, 17, 48, 49, 80, 81, 112, 113, 144, 145, 176, 177, 208, 209, 240, 241, -1, 0, 1, 32, 33, 34, 35, 64, 65, 96, 97, 98, 99, 128, 129, 160, 161, 162, 163, 192, 193, 224, 225, 226, 227, -1, 2, 3, 66, 67, 68, 69, 70, 71, 130, 131, 194, 195, 196, 197, 198, 199, -1, 4, 5, 6, 7, 132, 133, 134, 135, 136, 137, 138, 139, 140, 141, 142, 143, -1, -1]
/-- the variable holds the table -/
def RedsIn (w : World) : Prop := ∀ j : Nat, j < 79 → w.cell? ⟨1, j, none⟩ = some (.int .i64 (rs.getD j 0))
end Go.Proofs.YtgojphoejmbliaaDoor
