/- laws.FnDMontReduceIs returns true at every number. -/
import Derived.Test.YtgkombmhadgioaaDOne
namespace Go.Proofs.Ytgkombmhadgioaa.fnDMontReduceIs
open Go Go.Proofs Go.RowKit Go.Kd

theorem walk (x : Int) (hx : (Lit.int .u64 x).wf = true) (w : World) :
    Calls Try.prog 3 #[.int .u64 x] w fun e w' => e = .returned (.bool true) ∧ Ext w w' := by
  obtain ⟨h1, h2⟩ := bounds_u64 hx
  clear hx
  by_cases c1 : 35993616941842432 ≤ x
  · go_enter Try.func3, Try.ntmps3
    go_wp2_with fail
    go_ret
    exact ⟨rfl, Ext.refl _⟩
  · obtain ⟨b1, b2⟩ := montD_bd x (by omega)
    have e1 : (montD x * 4294967296 % 8380417 == x % 8380417) = true := by rw [montD_mod]; simp
    have e2 : ((montD 1).tmod 8380417 != 0) = true := by decide +kernel
    go_enter Try.func3, Try.ntmps3
    go_wp2_with (go_at_call 15; refine (dMont_any _ _ (by omega)).mono ?_; rintro e w' ⟨rfl, rfl⟩)

    go_ret
    exact ⟨rfl, Ext.refl _⟩
end Go.Proofs.Ytgkombmhadgioaa.fnDMontReduceIs
