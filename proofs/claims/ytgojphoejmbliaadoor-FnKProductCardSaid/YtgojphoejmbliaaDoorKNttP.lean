/- The layers of Kyber's transform, and of the reference's: plain laws. -/
import Derived.Test.YtgojphoejmbliaaDoorLay
import Derived.Test.YtgojphoejmbliaaDoorKZetas
import Derived.Test.YtgojphoejmbliaaDoorKField
namespace Go.Proofs.YtgojphoejmbliaaDoor
open Go Go.Proofs Go.RowKit Go.Kd
def lenK (n : Nat) : Nat := 128 / 2 ^ n
/-- the root of number k, as the reference has it -/
def zz (k : Nat) : Int := pw 17 3329 (rv 7 0 (k : Nat)).toNat
def kA (n b : Nat) (x y : Int) : Int := x + mont (zs.getD (2 ^ n + b) 0 * y)
def kB (n b : Nat) (x y : Int) : Int := x - mont (zs.getD (2 ^ n + b) 0 * y)
def FK (f : Nat → Int) : Nat → Nat → Int := runs lenK kA kB f
def sA (n b : Nat) (x y : Int) : Int := (x + zz (2 ^ n + b) * y % 3329) % 3329
def sB (n b : Nat) (x y : Int) : Int := (x - zz (2 ^ n + b) * y % 3329) % 3329
def SK (f : Nat → Int) : Nat → Nat → Int := runs lenK sA sB f

theorem len_facts : ∀ n, n < 7 → 2 ≤ lenK n ∧ lenK n ≤ 128 ∧ lenK (n + 1) = lenK n / 2 ∧ 2 * lenK n * 2 ^ n = 256 ∧ 1 ≤ 2 ^ n ∧ 2 ^ n ≤ 64 ∧ 2 ^ (n + 1) = 2 * 2 ^ n := by decide
theorem dom_facts (n i : Nat) (hn : n < 7) (hi : i < 256) : (i % (2 * lenK n) < lenK n → i + lenK n < 256) ∧ (¬ i % (2 * lenK n) < lenK n → lenK n ≤ i) ∧ 2 ^ n + i / (2 * lenK n) < 128 := by
  have h : n = 0 ∨ n = 1 ∨ n = 2 ∨ n = 3 ∨ n = 4 ∨ n = 5 ∨ n = 6 := by omega
  rcases h with h | h | h | h | h | h | h <;> subst h <;> simp only [lenK, Nat.reducePow, Nat.reduceDiv, Nat.reduceMul] <;> omega
theorem zs_bd (k : Nat) (hk : k < 128) : 0 ≤ zs.getD k 0 ∧ zs.getD k 0 ≤ 3329 := ⟨(zs_is ⟨k, hk⟩).2.1, (zs_is ⟨k, hk⟩).2.2⟩
theorem zz_bd (k : Nat) : 0 ≤ zz k ∧ zz k < 3329 := pw_bd 17 3329 (by omega) _
theorem prod_bd (z y Y : Int) (hz : 0 ≤ z ∧ z ≤ 3329) (hy : -Y ≤ y ∧ y ≤ Y) : -(3329 * Y) ≤ z * y ∧ z * y ≤ 3329 * Y := by
  have h0 : 0 ≤ Y := by omega
  have h1 : z * y ≤ z * Y := Int.mul_le_mul_of_nonneg_left hy.2 hz.1
  have h2 : z * Y ≤ 3329 * Y := Int.mul_le_mul_of_nonneg_right hz.2 h0
  have h3 : z * -Y ≤ z * y := Int.mul_le_mul_of_nonneg_left hy.1 hz.1
  rw [Int.mul_neg] at h3
  omega
theorem mont_small (p : Int) (h : -77575687 ≤ p ∧ p ≤ 77575687) : -2849 ≤ mont p ∧ mont p ≤ 2849 := by unfold mont; omega
theorem mont_prod (k : Nat) (hk : k < 128) (y : Int) (hy : -23303 ≤ y ∧ y ≤ 23303) : -2849 ≤ mont (zs.getD k 0 * y) ∧ mont (zs.getD k 0 * y) ≤ 2849 := by
  have h := prod_bd _ y 23303 (zs_bd k hk) hy
  exact mont_small _ (by omega)
theorem FK_bd (f : Nat → Int) (hf : ∀ i, i < 256 → -3329 ≤ f i ∧ f i ≤ 3329) : ∀ n, n ≤ 7 → ∀ i, i < 256 → -(3329 + 2849 * n) ≤ FK f n i ∧ FK f n i ≤ 3329 + 2849 * n
  | 0, _, i, hi => by have h := hf i hi; unfold FK runs; omega
  | n + 1, hn, i, hi => by
    have ih := FK_bd f hf n (by omega)
    obtain ⟨d1, d2, d3⟩ := dom_facts n i (by omega) hi
    show _ ≤ lay (lenK n) (kA n) (kB n) (FK f n) i ∧ lay (lenK n) (kA n) (kB n) (FK f n) i ≤ _
    unfold lay kA kB
    by_cases h : i % (2 * lenK n) < lenK n
    · rw [if_pos h]
      have h1 := ih i hi
      have h2 := ih (i + lenK n) (d1 h)
      have h3 := mont_prod _ d3 (FK f n (i + lenK n)) (by omega)
      omega
    · rw [if_neg h]
      have h1 := ih (i - lenK n) (by omega)
      have h2 := ih i hi
      have h3 := mont_prod _ d3 (FK f n i) (by omega)
      omega
/-- the product, modulo the prime -/
theorem mont_root (k : Nat) (hk : k < 128) (y : Int) : ∃ c, mont (zs.getD k 0 * y) = zz k * y + 3329 * c := by
  have h1 := (zs_is ⟨k, hk⟩).1
  have h2 := mont_mul (zs.getD k 0 * y)
  obtain ⟨v, hv⟩ : ∃ v, zs.getD k 0 = zz k * 65536 + 3329 * v := ⟨(zs.getD k 0 - zz k * 65536) / 3329, by
    have h3 : zs.getD k 0 % 3329 = zz k * 65536 % 3329 := h1
    omega⟩
  obtain ⟨u, hu⟩ : ∃ u, u = (zs.getD k 0 * y * 62209 + 32768) % 65536 - 32768 := ⟨_, rfl⟩
  rw [← hu] at h2
  have h4 : zs.getD k 0 * y = zz k * y * 65536 + 3329 * (v * y) := by rw [hv, Int.add_mul, Int.mul_assoc, Int.mul_assoc, Int.mul_assoc, Int.mul_comm 65536 y]
  refine ⟨169 * (v * y - u) - 3327 * (mont (zs.getD k 0 * y) - zz k * y), ?_⟩
  generalize mont (zs.getD k 0 * y) = t at *
  generalize zs.getD k 0 * y = p at *
  generalize zz k * y = q at *
  generalize v * y = s at *
  omega
theorem sum_mod (x t q y : Int) (c : Int) (ht : t = q + 3329 * c) (hq : q % 3329 = y % 3329) : (x % 3329 + y % 3329) % 3329 = (x + t) % 3329 ∧ (x % 3329 - y % 3329) % 3329 = (x - t) % 3329 := by omega
theorem mul_mod' (z y : Int) : (z * y) % 3329 = (z * (y % 3329)) % 3329 := by rw [Int.mul_emod z (y % 3329), Int.emod_emod_of_dvd _ (Int.dvd_refl _), ← Int.mul_emod]
theorem SK_is (f : Nat → Int) : ∀ n, n ≤ 7 → ∀ i, i < 256 → SK (fun i => f i % 3329) n i = FK f n i % 3329
  | 0, _, i, hi => rfl
  | n + 1, hn, i, hi => by
    have ih := SK_is f n (by omega)
    obtain ⟨d1, d2, d3⟩ := dom_facts n i (by omega) hi
    show lay (lenK n) (sA n) (sB n) (SK (fun i => f i % 3329) n) i = lay (lenK n) (kA n) (kB n) (FK f n) i % 3329
    unfold lay kA kB sA sB
    by_cases h : i % (2 * lenK n) < lenK n
    · rw [if_pos h, if_pos h, ih i hi, ih (i + lenK n) (d1 h)]
      obtain ⟨c, hc⟩ := mont_root _ d3 (FK f n (i + lenK n))
      exact (sum_mod _ _ _ _ c hc (mul_mod' _ _)).1
    · rw [if_neg h, if_neg h, ih i hi, ih (i - lenK n) (by omega)]
      obtain ⟨c, hc⟩ := mont_root _ d3 (FK f n i)
      exact (sum_mod _ _ _ _ c hc (mul_mod' _ _)).2
theorem mont0 (z : Int) : mont (z * 0) = 0 := by rw [Int.mul_zero]; decide
/-- the first number of the transform of 1 is 1 -/
theorem FK_one (f : Nat → Int) (h0 : f 0 = 1) (h1 : ∀ i, 0 < i → f i = 0) : ∀ n, n ≤ 7 → FK f n 0 = 1 ∧ ∀ j, 0 < j → j < 2 * lenK n → FK f n j = 0
  | 0, _ => ⟨h0, fun j hj _ => h1 j hj⟩
  | n + 1, hn => by
    obtain ⟨ih0, ih1⟩ := FK_one f h0 h1 n (by omega)
    obtain ⟨l1, l2, l3, l4, l5, l6, l7⟩ := len_facts n (by omega)
    constructor
    · show lay (lenK n) (kA n) (kB n) (FK f n) 0 = 1
      unfold lay kA
      rw [if_pos (by rw [Nat.zero_mod]; omega), ih0, ih1 (0 + lenK n) (by omega) (by omega), mont0]
      rfl
    · intro j hj hj2
      show lay (lenK n) (kA n) (kB n) (FK f n) j = 0
      unfold lay kA
      rw [if_pos (by rw [Nat.mod_eq_of_lt (by omega)]; omega), ih1 j hj (by omega), ih1 (j + lenK n) (by omega) (by omega), mont0]
      rfl
end Go.Proofs.YtgojphoejmbliaaDoor
