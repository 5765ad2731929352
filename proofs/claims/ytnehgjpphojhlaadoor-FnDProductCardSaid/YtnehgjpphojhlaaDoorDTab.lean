/- What the tables of this seat's program tell of the array types (Dilithium). -/
import Derived.Test.YtnehgjpphojhlaaDoorProg
import Derived.Test.YtnehgjpphojhlaaDoorEq
namespace Go.Proofs.YtnehgjpphojhlaaDoor
open Go Go.Proofs Go.RowKit Go.Kd

def zeros (n : Nat) (k : IntKind) : Array Value := cellsF n (ints k fun _ => 0)
theorem zeros_eq (n : Nat) (k : IntKind) : zeros n k = Array.replicate n (.int k 0) := (replicate_cellsF n _).symm

theorem arrK : ArrT Tryd.prog 28 256 := ⟨⟨_, Tryd.underlying28⟩, by kernel_rfl⟩
theorem zeroK : (Tryd.prog.info? 28).map (fun i => (i.zero, i.size)) = some (some (.agg (zeros 256 .u32)), 256) := by rw [zeros_eq]; kernel_rfl
theorem info32 : (Tryd.prog.info? 22).map (·.size) = some 1 := by kernel_rfl
theorem intK : IntArr Tryd.prog 28 22 256 .u32 := ⟨Tryd.underlying28, Tryd.underlying22, by kernel_rfl, Option.map_eq_some_iff.1 info32, by kernel_rfl⟩
theorem arrP : ArrT Tryd.prog 42 256 := ⟨⟨_, Tryd.underlying42⟩, by kernel_rfl⟩
theorem zeroP : (Tryd.prog.info? 42).map (fun i => (i.zero, i.size)) = some (some (.agg (zeros 256 .u32)), 256) := by rw [zeros_eq]; kernel_rfl
theorem arrS : ArrT Tryd.prog 32 256 := ⟨⟨_, Tryd.underlying32⟩, by kernel_rfl⟩
theorem zeroS : (Tryd.prog.info? 32).map (fun i => (i.zero, i.size)) = some (some (.agg (zeros 256 .i64)), 256) := by rw [zeros_eq]; kernel_rfl
theorem info64 : (Tryd.prog.info? 3).map (·.size) = some 1 := by kernel_rfl
theorem intS : IntArr Tryd.prog 32 3 256 .i64 := ⟨Tryd.underlying32, Tryd.underlying3, by kernel_rfl, Option.map_eq_some_iff.1 info64, by kernel_rfl⟩
theorem mixed : Tryd.prog.follows .mixedOrders = true := by kernel_rfl
end Go.Proofs.YtnehgjpphojhlaaDoor
