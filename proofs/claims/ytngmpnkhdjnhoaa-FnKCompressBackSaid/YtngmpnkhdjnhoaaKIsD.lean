/- laws.isD. -/
import Derived.Test.YtngmpnkhdjnhoaaProg
import Derived.Test.YtngmpnkhdjnhoaaUpto
import Derived.Lib.Hide
namespace Go.Proofs.Ytngmpnkhdjnhoaa
open Go Go.Proofs Go.RowKit Go.Kd
theorem isd_4 (w : World) : Calls Try.prog 24 #[.int .i64 4] w fun e w' => e = .returned (.bool true) ∧ w = w' := by
  go_enter Try.func24, Try.ntmps24
  go_wp2_with fail
  go_ret
  exact ⟨rfl, rfl⟩
theorem isd_5 (w : World) : Calls Try.prog 24 #[.int .i64 5] w fun e w' => e = .returned (.bool true) ∧ w = w' := by
  go_enter Try.func24, Try.ntmps24
  go_wp2_with fail
  go_ret
  exact ⟨rfl, rfl⟩
theorem isd_10 (w : World) : Calls Try.prog 24 #[.int .i64 10] w fun e w' => e = .returned (.bool true) ∧ w = w' := by
  go_enter Try.func24, Try.ntmps24
  go_wp2_with fail
  go_ret
  exact ⟨rfl, rfl⟩
theorem isd_11 (w : World) : Calls Try.prog 24 #[.int .i64 11] w fun e w' => e = .returned (.bool true) ∧ w = w' := by
  go_enter Try.func24, Try.ntmps24
  go_wp2_with fail
  go_ret
  exact ⟨rfl, rfl⟩
theorem isd_no (d : Int) (h4 : d ≠ 4) (h5 : d ≠ 5) (h10 : d ≠ 10) (h11 : d ≠ 11) (w : World) : Calls Try.prog 24 #[.int .i64 d] w fun e w' => e = .returned (.bool false) ∧ w = w' := by
  have e4 : (d == 4) = false := by simpa using h4
  have e5 : (d == 5) = false := by simpa using h5
  have e10 : (d == 10) = false := by simpa using h10
  have e11 : (d == 11) = false := by simpa using h11
  clear h4 h5 h10 h11
  go_enter Try.func24, Try.ntmps24
  go_wp2_with fail
  go_ret
  exact ⟨rfl, rfl⟩
end Go.Proofs.Ytngmpnkhdjnhoaa
