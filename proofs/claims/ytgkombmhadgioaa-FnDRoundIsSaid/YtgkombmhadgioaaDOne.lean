/- The thin package's functions of one number (Dilithium), and laws.FnDModQIs, FnDMontReduceIs. -/
import Derived.Test.YtgkombmhadgioaaDField
import Derived.Test.YtgkombmhadgioaaArr
namespace Go.Proofs.Ytgkombmhadgioaa
open Go Go.Proofs Go.RowKit Go.Kd

theorem dMont_any (x : Int) (w : World) (h : 0 ≤ x ∧ x < 35993616941842432) :
    Calls Try.prog 15 #[.int .u64 x] w fun e w' => e = .returned (.int .u32 (montD x)) ∧ w = w' := by
  go_enter Try.func15, Try.ntmps15
  go_wp2_with (first | (go_at_call 64; refine (montD_any _ _ h).mono ?_; rintro e w' ⟨rfl, rfl⟩) | go_in)
  go_ret
  exact ⟨rfl, rfl⟩
theorem dModQ_any (x : Int) (w : World) (h : 0 ≤ x ∧ x ≤ 4294967295) :
    Calls Try.prog 23 #[.int .u32 x] w fun e w' => e = .returned (.int .u32 (x % 8380417)) ∧ w = w' := by
  go_enter Try.func23, Try.ntmps23
  go_wp2_with (first | (go_at_call 67; refine (modq_any _ _ h).mono ?_; rintro e w' ⟨rfl, rfl⟩) | go_in)
  go_ret
  exact ⟨rfl, rfl⟩
theorem dLe2q_any (x : Int) (w : World) (h : 0 ≤ x ∧ x < 16760834) :
    Calls Try.prog 24 #[.int .u32 x] w fun e w' => e = .returned (.int .u32 (x % 8380417)) ∧ w = w' := by
  go_enter Try.func24, Try.ntmps24
  go_wp2_with (first | (go_at_call 68; refine (le2q_any _ _ h).mono ?_; rintro e w' ⟨rfl, rfl⟩) | go_in)
  go_ret
  exact ⟨rfl, rfl⟩
theorem dReduceOne_any (x : Int) (w : World) (h : 0 ≤ x ∧ x ≤ 4294967295) :
    Calls Try.prog 20 #[.int .u32 x] w fun e w' => e = .returned (.int .u32 (red2q x)) ∧ w = w' := by
  go_enter Try.func20, Try.ntmps20
  go_wp2_with (first | (go_at_call 46; refine (red2q_any _ _ h).mono ?_; rintro e w' ⟨rfl, rfl⟩) | go_in)
  go_ret
  exact ⟨rfl, rfl⟩
theorem dP2rOne_any (x : Int) (w : World) (h : 0 ≤ x ∧ x < 8380417) :
    Calls Try.prog 31 #[.int .u32 x] w fun e w' => e = .returned (.tuple #[.int .u32 (8380417 + low13 x), .int .u32 (high13 x)]) ∧ w = w' := by
  go_enter Try.func31, Try.ntmps31
  go_wp2_with (first | (go_at_call 73; refine (p2r_any _ _ h).mono ?_; rintro e w' ⟨rfl, rfl⟩) | go_in)
  go_ret2
  exact ⟨rfl, rfl⟩
end Go.Proofs.Ytgkombmhadgioaa
