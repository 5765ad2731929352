/- laws.FnKMontIs returns true at every pair of numbers. -/
import Derived.Test.YtidgcjmgekeapaaArr
import Derived.Test.YtidgcjmgekeapaaKField
import Derived.Test.YtidgcjmgekeapaaKMod
namespace Go.Proofs.Ytidgcjmgekeapaa.fnKMontIs
open Go Go.Proofs Go.RowKit Go.Kd

theorem red_any (x : Int) (w : World) (h : -109084672 ≤ x ∧ x ≤ 109084671) :
    Calls Try.prog 22 #[.int .i32 x] w fun e w' => e = .returned (.int .i16 (mont x)) ∧ w = w' := by
  go_enter Try.func22, Try.ntmps22
  go_wp2_with (first | (go_at_call 45; refine (mont_any _ _ h).mono ?_; rintro e w' ⟨rfl, rfl⟩) | go_in)
  go_ret
  exact ⟨rfl, rfl⟩

theorem to_any (x : Int) (w : World) (h : -32768 ≤ x ∧ x ≤ 32767) :
    Calls Try.prog 23 #[.int .i16 x] w fun e w' => e = .returned (.int .i16 (mont (x * 1353))) ∧ w = w' := by
  go_enter Try.func23, Try.ntmps23
  go_wp2_with (first | (go_at_call 46; refine (tomont_any _ _ h).mono ?_; rintro e w' ⟨rfl, rfl⟩) | go_in)
  go_ret
  exact ⟨rfl, rfl⟩

theorem walk (x : Int) (hx : (Lit.int .i32 x).wf = true) (y : Int) (hy : (Lit.int .i16 y).wf = true) (w : World) :
    Calls Try.prog 8 #[.int .i32 x, .int .i16 y] w fun e w' => e = .returned (.bool true) ∧ Ext w w' := by
  obtain ⟨h1, h2⟩ := bounds_i32 hx
  obtain ⟨h3, h4⟩ := bounds_i16 hy
  clear hx hy
  by_cases c1 : x < -109084672
  · have hd : decide (x < -109084672) = true := by simpa using c1
    go_enter Try.func8, Try.ntmps8
    go_wp2_with fail
    go_ret
    exact ⟨rfl, Ext.refl _⟩
  · by_cases c2 : 109084672 ≤ x
    · go_enter Try.func8, Try.ntmps8
      go_wp2_with fail
      go_ret
      exact ⟨rfl, Ext.refl _⟩
    · obtain ⟨b1, b2⟩ := mont_bd x (by omega)
      obtain ⟨b3, b4⟩ := mont_bd (y * 1353) (by omega)
      have e1 : (mont x * 65536 % 3329 == x % 3329) = true := by rw [mont_mod]; simp
      have e2 : (mont (y * 1353) % 3329 == y * 65536 % 3329) = true := by rw [tomont_mod]; simp
      have e3 : (mont 1353 != 0) = true := by decide +kernel
      go_enter Try.func8, Try.ntmps8
      go_wp2_with (first
        | (go_at_call 22; refine (red_any _ _ (by omega)).mono ?_; rintro e w' ⟨rfl, rfl⟩)
        | (go_at_call 23; refine (to_any _ _ (by omega)).mono ?_; rintro e w' ⟨rfl, rfl⟩)
        | (go_at_call 24; refine (mod_any _ _ (by omega)).mono ?_; rintro e w' ⟨rfl, rfl⟩))

      go_ret
      exact ⟨rfl, Ext.refl _⟩
end Go.Proofs.Ytidgcjmgekeapaa.fnKMontIs
