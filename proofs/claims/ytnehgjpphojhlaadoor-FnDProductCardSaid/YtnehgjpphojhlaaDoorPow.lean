/- The reference's powers: spec.reversed, spec.power (at the primes of the two schemes), spec.Zeta, spec.ZetaD. -/
import Derived.Test.YtnehgjpphojhlaaDoorProg
import Derived.Test.YtnehgjpphojhlaaDoorLib
import Derived.Lib.Hide
namespace Go.Proofs.YtnehgjpphojhlaaDoor
open Go Go.Proofs Go.RowKit Go.Kd

/-- x to the power of n, modulo q -/
def pw (x q : Int) : Nat → Int
  | 0 => 1
  | n + 1 => pw x q n * x % q
theorem pw_bd (x q : Int) (hq : 1 < q) : ∀ n, 0 ≤ pw x q n ∧ pw x q n < q
  | 0 => ⟨by unfold pw; omega, by unfold pw; omega⟩
  | n + 1 => ⟨Int.emod_nonneg _ (by omega), Int.emod_lt_of_pos _ (by omega)⟩
/-- bits in the opposite order -/
def rv : Nat → Int → Int → Int
  | 0, o, _ => o
  | b + 1, o, n => rv b (2 * o + n % 2) (n / 2)
def bd (k : Nat) : Int := 2 ^ (8 - k) - 1
theorem bd_step : ∀ k, k < 8 → bd k = 2 * bd (k + 1) + 1 := by decide
theorem bd_le : ∀ k, k ≤ 8 → bd k ≤ 255 := by decide
theorem rv_bd : ∀ (k : Nat) (o n : Int), k ≤ 8 → 0 ≤ o → o ≤ bd k → 0 ≤ n → 0 ≤ rv k o n ∧ rv k o n ≤ 255
  | 0, o, n, _, h1, h2, _ => by unfold rv; have := bd_le 0 (by omega); omega
  | k + 1, o, n, hk, h1, h2, h3 => by
    unfold rv
    have := bd_step k (by omega)
    exact rv_bd k _ _ (by omega) (by omega) (by omega) (by omega)

set_option maxRecDepth 100000 in
theorem reversed_any (n : Int) (b : Nat) (w : World) (hb : b ≤ 8) (hn : 0 ≤ n ∧ n ≤ 255) :
    Calls Tryd.prog 22 #[.int .i64 n, .int .i64 b] w fun e w' => e = .returned (.int .i64 (rv b 0 n)) ∧ w = w' := by
  have b0 : (0 : Int) ≤ bd b := by revert hb; revert b; decide
  go_enter Tryd.func22, Tryd.ntmps22
  go_wp2_with fail
  go_loop [0, 1, 5] (fun x y z => ∃ (k : Nat) (m o : Int), k ≤ 8 ∧ x = .int .i64 m ∧ y = .int .i64 k ∧ z = .int .i64 o ∧ 0 ≤ m ∧ m ≤ 255 ∧ 0 ≤ o ∧ o ≤ bd k ∧ rv k o m = rv b 0 n) (fun _ y _ => (intOf y).toNat)
  case atStart => exact ⟨b, n, 0, hb, rfl, rfl, rfl, hn.1, hn.2, by omega, b0, rfl⟩
  case round =>
    obtain ⟨k, m, o, hk, rfl, rfl, rfl, m1, m2, o1, o2, he⟩ := hrel
    have o3 := bd_le k hk
    cases k with
    | zero =>
      have HE := Lib.hid he
      clear he
      go_wp2_with fail
      go_ret
      exact ⟨by rw [← HE.out]; rfl, rfl⟩
    | succ k =>
      have hs := bd_step k (by omega)
      have HE := Lib.hid he
      clear he
      have ec : ((k + 1 : Nat) : Int) - 1 = (k : Int) := by omega
      have eg : (0 : Int) < ((k + 1 : Nat) : Int) := by omega
      go_wp2_with fail
      go_round
      case rel => exact ⟨k, m / 2, 2 * o + m % 2, by omega, by go_num, by go_num, by go_num, by omega, by omega, by omega, by omega, HE.out⟩
      case measure => simp [intOf]


set_option maxRecDepth 100000 in
theorem powerZetaD (n : Int) (w : World) (hn : 0 ≤ n ∧ n ≤ 255) :
    Calls Tryd.prog 21 #[.int .i64 1753, .int .i64 n, .int .i64 8380417] w fun e w' => e = .returned (.int .i64 (pw 1753 8380417 n.toNat)) ∧ w = w' := by
  go_enter Tryd.func21, Tryd.ntmps21
  go_wp2_with fail
  go_loop [1, 7] (fun y z => ∃ (k : Nat), (k : Int) ≤ n ∧ y = .int .i64 (n - k) ∧ z = .int .i64 (pw 1753 8380417 k)) (fun y _ => (intOf y).toNat)
  case atStart => exact ⟨0, by omega, by simp, rfl⟩
  case round =>
    obtain ⟨k, hk, rfl, rfl⟩ := hrel
    obtain ⟨p1, p2⟩ := pw_bd 1753 8380417 (by omega) k
    by_cases hlt : (k : Int) < n
    · have hs : pw 1753 8380417 (k + 1) = pw 1753 8380417 k * 1753 % 8380417 := rfl
      have HS := Lib.hid hs
      clear hs
      generalize hp : pw 1753 8380417 k = p at *
      go_wp2_with fail
      go_round
      case rel => exact ⟨k + 1, by omega, by go_num, by rw [HS.out]⟩
      case measure => simp [intOf]; omega
    · have hk' : k = n.toNat := by omega
      subst hk'
      generalize hp : pw 1753 8380417 n.toNat = p at *
      go_wp2_with fail
      go_ret
      exact ⟨rfl, rfl⟩
theorem zetaD_any (i : Int) (w : World) (hi : 0 ≤ i ∧ i ≤ 255) :
    Calls Tryd.prog 8 #[.int .i64 i] w fun e w' => e = .returned (.int .i64 (pw 1753 8380417 (rv 8 0 i).toNat)) ∧ w = w' := by
  have b7 : (0 : Int) ≤ bd 8 := by decide
  obtain ⟨r1, r2⟩ := rv_bd 8 0 i (by omega) (by omega) b7 hi.1
  have HR := fun w => Lib.hid (reversed_any i 8 w (by omega) hi)
  have HP := fun w => Lib.hid (powerZetaD (rv 8 0 i) w ⟨r1, r2⟩)
  clear b7
  go_enter Tryd.func8, Tryd.ntmps8
  go_wp2_with (first | (go_at_call 22; refine (HR _).out.mono ?_; rintro e w' ⟨rfl, rfl⟩) | (go_at_call 21; refine (HP _).out.mono ?_; rintro e w' ⟨rfl, rfl⟩))
  go_ret
  exact ⟨rfl, rfl⟩

end Go.Proofs.YtnehgjpphojhlaaDoor