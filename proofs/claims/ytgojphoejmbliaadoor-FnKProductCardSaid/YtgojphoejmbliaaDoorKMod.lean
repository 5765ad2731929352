/- spec.Mod at Kyber's prime: the remainder from 0 on. -/
import Derived.Test.YtgojphoejmbliaaDoorProg
import Derived.Test.YtgojphoejmbliaaDoorLib
import Derived.Lib.Hide
namespace Go.Proofs.YtgojphoejmbliaaDoor
open Go Go.Proofs Go.RowKit Go.Kd

theorem tmod_pos (x q : Int) (h : 0 ≤ x) : x.tmod q = x % q := Int.tmod_eq_emod_of_nonneg h

theorem mod_any (x : Int) (w : World) (h : -4611686018427387904 ≤ x ∧ x ≤ 4611686018427387904) :
    Calls Tryd.prog 17 #[.int .i64 x, .int .i64 3329] w fun e w' => e = .returned (.int .i64 (x % 3329)) ∧ w = w' := by
  obtain ⟨h1, h2⟩ := h
  by_cases hx : 0 ≤ x
  · go_enter Tryd.func17, Tryd.ntmps17
    go_wp2
    go_ret
    exact ⟨rfl, rfl⟩
  · have e := Int.tmod_eq_emod (a := x) (b := 3329)
    have hb1 := Int.emod_nonneg x (by decide : (3329 : Int) ≠ 0)
    have hb2 := Int.emod_lt_of_pos x (by decide : (0 : Int) < 3329)
    by_cases hd : (3329 : Int) ∣ x
    · have e2 : x.tmod 3329 = x % 3329 := by rw [e, if_pos (Or.inr hd)]; omega
      have e3 : x % 3329 = 0 := Int.emod_eq_zero_of_dvd hd
      have E := Lib.hid e2
      have E3 := Lib.hid e3
      clear e2 e e3 hd
      have e4 : x.tmod 3329 = 0 := by rw [E.out, E3.out]
      go_enter Tryd.func17, Tryd.ntmps17
      go_wp2
      go_ret
      exact ⟨by rw [E3.out]; rfl, rfl⟩
    · have e2 : x.tmod 3329 = x % 3329 - 3329 := by rw [e, if_neg (by omega)]; rfl
      clear e hd
      go_enter Tryd.func17, Tryd.ntmps17
      go_wp2
      go_ret
      exact ⟨by simp, rfl⟩
end Go.Proofs.YtgojphoejmbliaaDoor
