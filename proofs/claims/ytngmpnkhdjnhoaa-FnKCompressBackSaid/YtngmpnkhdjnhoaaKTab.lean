/- What the tables of this seat's program tell of the array types. -/
import Derived.Test.YtngmpnkhdjnhoaaProg
import Derived.Test.YtngmpnkhdjnhoaaEq
namespace Go.Proofs.Ytngmpnkhdjnhoaa
open Go Go.Proofs Go.RowKit Go.Kd

def zeros (n : Nat) (k : IntKind) : Array Value := cellsF n (ints k fun _ => 0)
theorem zeros_eq (n : Nat) (k : IntKind) : zeros n k = Array.replicate n (.int k 0) := (replicate_cellsF n _).symm

theorem arrK : ArrT Try.prog 23 256 := ⟨⟨_, Try.underlying23⟩, by kernel_rfl⟩
theorem zeroK : (Try.prog.info? 23).map (fun i => (i.zero, i.size)) = some (some (.agg (zeros 256 .i16)), 256) := by rw [zeros_eq]; kernel_rfl
theorem info16 : (Try.prog.info? 22).map (·.size) = some 1 := by kernel_rfl
theorem intK : IntArr Try.prog 23 22 256 .i16 := ⟨Try.underlying23, Try.underlying22, by kernel_rfl, Option.map_eq_some_iff.1 info16, by kernel_rfl⟩
theorem arrP : ArrT Try.prog 47 256 := ⟨⟨_, Try.underlying47⟩, by kernel_rfl⟩
theorem zeroP : (Try.prog.info? 47).map (fun i => (i.zero, i.size)) = some (some (.agg (zeros 256 .i16)), 256) := by rw [zeros_eq]; kernel_rfl
theorem arrS : ArrT Try.prog 36 256 := ⟨⟨_, Try.underlying36⟩, by kernel_rfl⟩
theorem zeroS : (Try.prog.info? 36).map (fun i => (i.zero, i.size)) = some (some (.agg (zeros 256 .i64)), 256) := by rw [zeros_eq]; kernel_rfl
theorem info64 : (Try.prog.info? 3).map (·.size) = some 1 := by kernel_rfl
theorem intS : IntArr Try.prog 36 3 256 .i64 := ⟨Try.underlying36, Try.underlying3, by kernel_rfl, Option.map_eq_some_iff.1 info64, by kernel_rfl⟩
theorem mixed : Try.prog.follows .mixedOrders = true := by kernel_rfl
end Go.Proofs.Ytngmpnkhdjnhoaa
