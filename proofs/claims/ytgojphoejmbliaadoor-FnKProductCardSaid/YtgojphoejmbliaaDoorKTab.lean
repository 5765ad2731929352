/- What the tables of this seat's program tell of the array types. -/
import Derived.Test.YtgojphoejmbliaaDoorProg
import Derived.Test.YtgojphoejmbliaaDoorEq
namespace Go.Proofs.YtgojphoejmbliaaDoor
open Go Go.Proofs Go.RowKit Go.Kd

def zeros (n : Nat) (k : IntKind) : Array Value := cellsF n (ints k fun _ => 0)
theorem zeros_eq (n : Nat) (k : IntKind) : zeros n k = Array.replicate n (.int k 0) := (replicate_cellsF n _).symm

theorem arrK : ArrT Tryd.prog 23 256 := ⟨⟨_, Tryd.underlying23⟩, by kernel_rfl⟩
theorem zeroK : (Tryd.prog.info? 23).map (fun i => (i.zero, i.size)) = some (some (.agg (zeros 256 .i16)), 256) := by rw [zeros_eq]; kernel_rfl
theorem info16 : (Tryd.prog.info? 22).map (·.size) = some 1 := by kernel_rfl
theorem intK : IntArr Tryd.prog 23 22 256 .i16 := ⟨Tryd.underlying23, Tryd.underlying22, by kernel_rfl, Option.map_eq_some_iff.1 info16, by kernel_rfl⟩
theorem arrP : ArrT Tryd.prog 34 256 := ⟨⟨_, Tryd.underlying34⟩, by kernel_rfl⟩
theorem zeroP : (Tryd.prog.info? 34).map (fun i => (i.zero, i.size)) = some (some (.agg (zeros 256 .i16)), 256) := by rw [zeros_eq]; kernel_rfl
theorem arrS : ArrT Tryd.prog 29 256 := ⟨⟨_, Tryd.underlying29⟩, by kernel_rfl⟩
theorem zeroS : (Tryd.prog.info? 29).map (fun i => (i.zero, i.size)) = some (some (.agg (zeros 256 .i64)), 256) := by rw [zeros_eq]; kernel_rfl
theorem info64 : (Tryd.prog.info? 3).map (·.size) = some 1 := by kernel_rfl
theorem intS : IntArr Tryd.prog 29 3 256 .i64 := ⟨Tryd.underlying29, Tryd.underlying3, by kernel_rfl, Option.map_eq_some_iff.1 info64, by kernel_rfl⟩
theorem mixed : Tryd.prog.follows .mixedOrders = true := by kernel_rfl
end Go.Proofs.YtgojphoejmbliaaDoor
