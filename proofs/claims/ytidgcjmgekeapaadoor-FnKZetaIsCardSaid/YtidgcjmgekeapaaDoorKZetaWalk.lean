/- laws.FnKZetaIs returns true at every number. -/
import Derived.Test.YtidgcjmgekeapaaDoorKZetas
import Derived.Test.YtidgcjmgekeapaaDoorKMod
namespace Go.Proofs.YtidgcjmgekeapaaDoor.fnKZetaIs
open Go Go.Proofs Go.RowKit Go.Kd
set_option maxRecDepth 100000 in
theorem walk (i : Int) (hi : (Lit.int .i64 i).wf = true) (w : World) (hz : ZetasIn w) :
    Calls Tryd.prog 3 #[.int .i64 i] w fun e w' => e = .returned (.bool true) ∧ Ext w w' := by
  obtain ⟨b1, b2⟩ := bounds_i64 hi
  clear hi
  by_cases c1 : i < 0
  · clear hz
    go_enter Tryd.func3, Tryd.ntmps3
    go_wp2_with fail
    go_ret
    exact ⟨rfl, Ext.refl _⟩
  by_cases c2 : 127 < i
  · clear hz
    go_enter Tryd.func3, Tryd.ntmps3
    go_wp2_with fail
    go_ret
    exact ⟨rfl, Ext.refl _⟩
  obtain ⟨j, rfl⟩ : ∃ j : Nat, i = j := ⟨i.toNat, by omega⟩
  have hj : j < 128 := by omega
  obtain ⟨q1, q2, q3⟩ := zs_is ⟨j, hj⟩
  have hc := hz j hj
  clear hz
  obtain ⟨p1, p2⟩ := pw_bd 17 3329 (by omega) (rv 7 0 (j : Nat)).toNat
  have HZ := fun w => Lib.hid (zeta_any j w (by omega))
  simp only at q1 q2 q3
  generalize zs.getD j 0 = z at *
  generalize pw 17 3329 (rv 7 0 (j : Nat)).toNat = p at *
  have HQ := Lib.hid q1
  clear q1
  go_enter Tryd.func3, Tryd.ntmps3
  go_wp2_with (first | (go_at_call 8; refine (mod_any _ _ (by omega)).mono ?_; rintro e w' ⟨rfl, rfl⟩) | (go_at_call 10; refine (HZ _).out.mono ?_; rintro e w' ⟨rfl, rfl⟩) | go_in)
  go_ret
  exact ⟨by simp [HQ.out], Ext.refl _⟩
end Go.Proofs.YtidgcjmgekeapaaDoor.fnKZetaIs
