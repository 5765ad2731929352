/- The reference's powers: spec.reversed, spec.power (at the primes of the two schemes), spec.Zeta, spec.ZetaD. -/
import Derived.Test.YtgojphoejmbliaaDoorProg
import Derived.Test.YtgojphoejmbliaaDoorLib
import Derived.Lib.Hide
namespace Go.Proofs.YtgojphoejmbliaaDoor
open Go Go.Proofs Go.RowKit Go.Kd

/-- x to the power of n, modulo q -/
def pw (x q : Int) : Nat → Int
  | 0 => 1
  | n + 1 => pw x q n * x % q
theorem pw_bd (x q : Int) (hq : 1 < q) : ∀ n, 0 ≤ pw x q n ∧ pw x q n < q
  | 0 => ⟨by unfold pw; omega, by unfold pw; omega⟩
  | n + 1 => ⟨Int.emod_nonneg _ (by omega), Int.emod_lt_of_pos _ (by omega)⟩
/-- bits in the opposite order -/
def rv : Nat → Int → Int → Int
  | 0, o, _ => o
  | b + 1, o, n => rv b (2 * o + n % 2) (n / 2)
def bd (k : Nat) : Int := 2 ^ (8 - k) - 1
theorem bd_step : ∀ k, k < 8 → bd k = 2 * bd (k + 1) + 1 := by decide
theorem bd_le : ∀ k, k ≤ 8 → bd k ≤ 255 := by decide
theorem rv_bd : ∀ (k : Nat) (o n : Int), k ≤ 8 → 0 ≤ o → o ≤ bd k → 0 ≤ n → 0 ≤ rv k o n ∧ rv k o n ≤ 255
  | 0, o, n, _, h1, h2, _ => by unfold rv; have := bd_le 0 (by omega); omega
  | k + 1, o, n, hk, h1, h2, h3 => by
    unfold rv
    have := bd_step k (by omega)
    exact rv_bd k _ _ (by omega) (by omega) (by omega) (by omega)




end Go.Proofs.YtgojphoejmbliaaDoor