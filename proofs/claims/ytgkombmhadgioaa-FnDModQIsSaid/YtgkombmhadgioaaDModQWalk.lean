/- laws.FnDModQIs returns true at every number. -/
import Derived.Test.YtgkombmhadgioaaDOne
namespace Go.Proofs.Ytgkombmhadgioaa.fnDModQIs
open Go Go.Proofs Go.RowKit Go.Kd

theorem walk (x : Int) (hx : (Lit.int .u32 x).wf = true) (w : World) :
    Calls Try.prog 6 #[.int .u32 x] w fun e w' => e = .returned (.bool true) ∧ Ext w w' := by
  obtain ⟨h1, h2⟩ := bounds_u32 hx
  clear hx
  by_cases c1 : 16760834 ≤ x
  · go_enter Try.func6, Try.ntmps6
    go_wp2_with (first | (go_at_call 23; refine (dModQ_any _ _ (by omega)).mono ?_; rintro e w' ⟨rfl, rfl⟩) | (go_at_call 24; refine (dLe2q_any _ _ (by omega)).mono ?_; rintro e w' ⟨rfl, rfl⟩))
    go_ret
    exact ⟨rfl, Ext.refl _⟩
  · go_enter Try.func6, Try.ntmps6
    go_wp2_with (first | (go_at_call 23; refine (dModQ_any _ _ (by omega)).mono ?_; rintro e w' ⟨rfl, rfl⟩) | (go_at_call 24; refine (dLe2q_any _ _ (by omega)).mono ?_; rintro e w' ⟨rfl, rfl⟩))
    go_ret
    exact ⟨rfl, Ext.refl _⟩
end Go.Proofs.Ytgkombmhadgioaa.fnDModQIs
