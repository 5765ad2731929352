/- laws.FnKCsubqIs returns true at every number. -/
import Derived.Test.YtidgcjmgekeapaaArr
import Derived.Test.YtidgcjmgekeapaaKField
namespace Go.Proofs.Ytidgcjmgekeapaa.fnKCsubqIs
open Go Go.Proofs Go.RowKit Go.Kd

theorem impl_any (x : Int) (w : World) (h : -29439 ≤ x ∧ x ≤ 32767) :
    Calls Try.prog 10 #[.int .i16 x] w fun e w' => e = .returned (.int .i16 (csub x)) ∧ w = w' := by
  go_enter Try.func10, Try.ntmps10
  go_wp2_with (first | (go_at_call 39; refine (csubq_any _ _ h).mono ?_; rintro e w' ⟨rfl, rfl⟩) | go_in)
  go_ret
  exact ⟨rfl, rfl⟩

theorem walk (x : Int) (hx : (Lit.int .i16 x).wf = true) (w : World) :
    Calls Try.prog 3 #[.int .i16 x] w fun e w' => e = .returned (.bool true) ∧ Ext w w' := by
  obtain ⟨h1, h2⟩ := bounds_i16 hx
  clear hx
  by_cases c1 : x < 0
  · have hd : decide (x < 0) = true := by simpa using c1
    go_enter Try.func3, Try.ntmps3
    go_wp2_with fail
    go_ret
    exact ⟨rfl, Ext.refl _⟩
  · by_cases c2 : 6658 < x
    · go_enter Try.func3, Try.ntmps3
      go_wp2_with fail
      go_ret
      exact ⟨rfl, Ext.refl _⟩
    · by_cases c3 : 3329 ≤ x
      · have e1 : csub x = x - 3329 := by unfold csub; rw [if_neg (by omega)]
        have e2 : csub 1 = 1 := rfl
        go_enter Try.func3, Try.ntmps3
        go_wp2_with (go_at_call 10; refine (impl_any _ _ (by omega)).mono ?_; rintro e w' ⟨rfl, rfl⟩)
        go_ret
        exact ⟨rfl, Ext.refl _⟩
      · have e1 : csub x = x := by unfold csub; rw [if_pos (by omega)]
        have e2 : csub 1 = 1 := rfl
        go_enter Try.func3, Try.ntmps3
        go_wp2_with (go_at_call 10; refine (impl_any _ _ (by omega)).mono ?_; rintro e w' ⟨rfl, rfl⟩)
        go_ret
        exact ⟨rfl, Ext.refl _⟩
end Go.Proofs.Ytidgcjmgekeapaa.fnKCsubqIs
