/- What the tables of this seat's program tell of the array types (Dilithium). -/
import Derived.Test.YtcgliedglahphaaProg
import Derived.Test.YtcgliedglahphaaEq
namespace Go.Proofs.Ytcgliedglahphaa
open Go Go.Proofs Go.RowKit Go.Kd

def zeros (n : Nat) (k : IntKind) : Array Value := cellsF n (ints k fun _ => 0)
theorem zeros_eq (n : Nat) (k : IntKind) : zeros n k = Array.replicate n (.int k 0) := (replicate_cellsF n _).symm

theorem arrK : ArrT Try.prog 23 256 := ⟨⟨_, Try.underlying23⟩, by kernel_rfl⟩
theorem zeroK : (Try.prog.info? 23).map (fun i => (i.zero, i.size)) = some (some (.agg (zeros 256 .u32)), 256) := by rw [zeros_eq]; kernel_rfl
theorem info32 : (Try.prog.info? 22).map (·.size) = some 1 := by kernel_rfl
theorem intK : IntArr Try.prog 23 22 256 .u32 := ⟨Try.underlying23, Try.underlying22, by kernel_rfl, Option.map_eq_some_iff.1 info32, by kernel_rfl⟩
theorem arrP : ArrT Try.prog 29 256 := ⟨⟨_, Try.underlying29⟩, by kernel_rfl⟩
theorem zeroP : (Try.prog.info? 29).map (fun i => (i.zero, i.size)) = some (some (.agg (zeros 256 .u32)), 256) := by rw [zeros_eq]; kernel_rfl
theorem mixed : Try.prog.follows .mixedOrders = true := by kernel_rfl
end Go.Proofs.Ytcgliedglahphaa
