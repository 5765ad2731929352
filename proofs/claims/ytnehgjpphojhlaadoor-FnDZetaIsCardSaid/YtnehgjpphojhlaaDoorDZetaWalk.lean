/- laws.FnDZetaIs returns true at every number. -/
import Derived.Test.YtnehgjpphojhlaaDoorDZetas
import Derived.Test.YtnehgjpphojhlaaDoorDMod
namespace Go.Proofs.YtnehgjpphojhlaaDoor.fnDZetaIs
open Go Go.Proofs Go.RowKit Go.Kd
set_option maxRecDepth 100000 in
theorem walk (i : Int) (hi : (Lit.int .i64 i).wf = true) (back : Bool) (w : World) (hz : ZetasIn w) (hy : InvZetasIn w) :
    Calls Tryd.prog 3 #[.int .i64 i, .bool back] w fun e w' => e = .returned (.bool true) ∧ Ext w w' := by
  obtain ⟨b1, b2⟩ := bounds_i64 hi
  clear hi
  by_cases c1 : i < 0
  · clear hz hy
    go_enter Tryd.func3, Tryd.ntmps3
    go_wp2_with fail
    go_ret
    exact ⟨rfl, Ext.refl _⟩
  by_cases c2 : 255 < i
  · clear hz hy
    go_enter Tryd.func3, Tryd.ntmps3
    go_wp2_with fail
    go_ret
    exact ⟨rfl, Ext.refl _⟩
  obtain ⟨j, rfl⟩ : ∃ j : Nat, i = j := ⟨i.toNat, by omega⟩
  have hj : j < 256 := by omega
  cases back
  · obtain ⟨q1, q2, q3⟩ := zs_is ⟨j, hj⟩
    have hc := hz j hj
    clear hz hy
    obtain ⟨p1, p2⟩ := pw_bd 1753 8380417 (by omega) (rv 8 0 (j : Nat)).toNat
    have HZ := fun w => Lib.hid (zetaD_any j w (by omega))
    simp only at q1 q2 q3
    generalize zs.getD j 0 = z at *
    generalize pw 1753 8380417 (rv 8 0 (j : Nat)).toNat = p at *
    have HQ := Lib.hid q1
    clear q1
    go_enter Tryd.func3, Tryd.ntmps3
    go_wp2_with (first | (go_at_call 8; refine (HZ _).out.mono ?_; rintro e w' ⟨rfl, rfl⟩) | go_in)
    go_ret
    exact ⟨by simp [HQ.out], Ext.refl _⟩
  · obtain ⟨q1, q2, q3⟩ := is_is ⟨j, hj⟩
    have hc := hy j hj
    clear hz hy
    obtain ⟨p1, p2⟩ := pw_bd 1753 8380417 (by omega) (rv 8 0 (255 - (j : Nat))).toNat
    have HZ := fun w => Lib.hid (zetaD_any (255 - j) w (by omega))
    simp only at q1 q2 q3
    generalize is.getD j 0 = z at *
    generalize pw 1753 8380417 (rv 8 0 (255 - (j : Nat))).toNat = p at *
    have HQ := Lib.hid q1
    clear q1
    go_enter Tryd.func3, Tryd.ntmps3
    go_wp2_with (first | (go_at_call 9; refine (mod_any _ _ (by omega)).mono ?_; rintro e w' ⟨rfl, rfl⟩) | (go_at_call 8; refine (HZ _).out.mono ?_; rintro e w' ⟨rfl, rfl⟩) | go_in)
    go_ret
    exact ⟨by simp [HQ.out], Ext.refl _⟩
end Go.Proofs.YtnehgjpphojhlaaDoor.fnDZetaIs
