/- spec.Mod at Dilithium's prime: the remainder from 0 on. -/
import Derived.Test.YtnehgjpphojhlaaDoorProg
import Derived.Test.YtnehgjpphojhlaaDoorLib
import Derived.Lib.Hide
namespace Go.Proofs.YtnehgjpphojhlaaDoor
open Go Go.Proofs Go.RowKit Go.Kd

theorem tmod_pos (x q : Int) (h : 0 ≤ x) : x.tmod q = x % q := Int.tmod_eq_emod_of_nonneg h

theorem mod_any (x : Int) (w : World) (h : -4611686018427387904 ≤ x ∧ x ≤ 4611686018427387904) :
    Calls Tryd.prog 9 #[.int .i64 x, .int .i64 8380417] w fun e w' => e = .returned (.int .i64 (x % 8380417)) ∧ w = w' := by
  obtain ⟨h1, h2⟩ := h
  by_cases hx : 0 ≤ x
  · go_enter Tryd.func9, Tryd.ntmps9
    go_wp2
    go_ret
    exact ⟨rfl, rfl⟩
  · have e := Int.tmod_eq_emod (a := x) (b := 8380417)
    have hb1 := Int.emod_nonneg x (by decide : (8380417 : Int) ≠ 0)
    have hb2 := Int.emod_lt_of_pos x (by decide : (0 : Int) < 8380417)
    by_cases hd : (8380417 : Int) ∣ x
    · have e2 : x.tmod 8380417 = x % 8380417 := by rw [e, if_pos (Or.inr hd)]; omega
      have e3 : x % 8380417 = 0 := Int.emod_eq_zero_of_dvd hd
      have E := Lib.hid e2
      have E3 := Lib.hid e3
      clear e2 e e3 hd
      have e4 : x.tmod 8380417 = 0 := by rw [E.out, E3.out]
      go_enter Tryd.func9, Tryd.ntmps9
      go_wp2
      go_ret
      exact ⟨by rw [E3.out]; rfl, rfl⟩
    · have e2 : x.tmod 8380417 = x % 8380417 - 8380417 := by rw [e, if_neg (by omega)]; rfl
      clear e hd
      go_enter Tryd.func9, Tryd.ntmps9
      go_wp2
      go_ret
      exact ⟨by simp, rfl⟩
end Go.Proofs.YtnehgjpphojhlaaDoor
