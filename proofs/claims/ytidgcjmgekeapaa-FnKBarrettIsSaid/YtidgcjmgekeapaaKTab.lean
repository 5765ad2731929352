/- What the tables of this seat's program tell of the array types. -/
import Derived.Test.YtidgcjmgekeapaaProg
import Derived.Test.YtidgcjmgekeapaaEq
namespace Go.Proofs.Ytidgcjmgekeapaa
open Go Go.Proofs Go.RowKit Go.Kd

def zeros (n : Nat) (k : IntKind) : Array Value := cellsF n (ints k fun _ => 0)
theorem zeros_eq (n : Nat) (k : IntKind) : zeros n k = Array.replicate n (.int k 0) := (replicate_cellsF n _).symm

theorem arrK : ArrT Try.prog 25 256 := ⟨⟨_, Try.underlying25⟩, by kernel_rfl⟩
theorem zeroK : (Try.prog.info? 25).map (fun i => (i.zero, i.size)) = some (some (.agg (zeros 256 .i16)), 256) := by rw [zeros_eq]; kernel_rfl
theorem info16 : (Try.prog.info? 22).map (·.size) = some 1 := by kernel_rfl
theorem intK : IntArr Try.prog 25 22 256 .i16 := ⟨Try.underlying25, Try.underlying22, by kernel_rfl, Option.map_eq_some_iff.1 info16, by kernel_rfl⟩
theorem arrP : ArrT Try.prog 40 256 := ⟨⟨_, Try.underlying40⟩, by kernel_rfl⟩
theorem zeroP : (Try.prog.info? 40).map (fun i => (i.zero, i.size)) = some (some (.agg (zeros 256 .i16)), 256) := by rw [zeros_eq]; kernel_rfl
theorem arrS : ArrT Try.prog 32 256 := ⟨⟨_, Try.underlying32⟩, by kernel_rfl⟩
theorem zeroS : (Try.prog.info? 32).map (fun i => (i.zero, i.size)) = some (some (.agg (zeros 256 .i64)), 256) := by rw [zeros_eq]; kernel_rfl
theorem info64 : (Try.prog.info? 3).map (·.size) = some 1 := by kernel_rfl
theorem intS : IntArr Try.prog 32 3 256 .i64 := ⟨Try.underlying32, Try.underlying3, by kernel_rfl, Option.map_eq_some_iff.1 info64, by kernel_rfl⟩
theorem mixed : Try.prog.follows .mixedOrders = true := by kernel_rfl
end Go.Proofs.Ytidgcjmgekeapaa
