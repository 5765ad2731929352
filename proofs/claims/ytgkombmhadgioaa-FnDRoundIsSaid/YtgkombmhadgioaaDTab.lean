/- What the tables of this seat's program tell of the array types (Dilithium). -/
import Derived.Test.YtgkombmhadgioaaProg
import Derived.Test.YtgkombmhadgioaaEq
namespace Go.Proofs.Ytgkombmhadgioaa
open Go Go.Proofs Go.RowKit Go.Kd

def zeros (n : Nat) (k : IntKind) : Array Value := cellsF n (ints k fun _ => 0)
theorem zeros_eq (n : Nat) (k : IntKind) : zeros n k = Array.replicate n (.int k 0) := (replicate_cellsF n _).symm

theorem arrK : ArrT Try.prog 27 256 := ⟨⟨_, Try.underlying27⟩, by kernel_rfl⟩
theorem zeroK : (Try.prog.info? 27).map (fun i => (i.zero, i.size)) = some (some (.agg (zeros 256 .u32)), 256) := by rw [zeros_eq]; kernel_rfl
theorem info32 : (Try.prog.info? 23).map (·.size) = some 1 := by kernel_rfl
theorem intK : IntArr Try.prog 27 23 256 .u32 := ⟨Try.underlying27, Try.underlying23, by kernel_rfl, Option.map_eq_some_iff.1 info32, by kernel_rfl⟩
theorem arrP : ArrT Try.prog 52 256 := ⟨⟨_, Try.underlying52⟩, by kernel_rfl⟩
theorem zeroP : (Try.prog.info? 52).map (fun i => (i.zero, i.size)) = some (some (.agg (zeros 256 .u32)), 256) := by rw [zeros_eq]; kernel_rfl
theorem arrS : ArrT Try.prog 34 256 := ⟨⟨_, Try.underlying34⟩, by kernel_rfl⟩
theorem zeroS : (Try.prog.info? 34).map (fun i => (i.zero, i.size)) = some (some (.agg (zeros 256 .i64)), 256) := by rw [zeros_eq]; kernel_rfl
theorem info64 : (Try.prog.info? 3).map (·.size) = some 1 := by kernel_rfl
theorem intS : IntArr Try.prog 34 3 256 .i64 := ⟨Try.underlying34, Try.underlying3, by kernel_rfl, Option.map_eq_some_iff.1 info64, by kernel_rfl⟩
theorem mixed : Try.prog.follows .mixedOrders = true := by kernel_rfl
end Go.Proofs.Ytgkombmhadgioaa
