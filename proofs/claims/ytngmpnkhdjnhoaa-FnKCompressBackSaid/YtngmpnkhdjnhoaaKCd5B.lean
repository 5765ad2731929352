/- KCompress, KDecompress at 5 bits. -/
import Derived.Test.YtngmpnkhdjnhoaaKComp5
import Derived.Test.YtngmpnkhdjnhoaaKDec5
import Derived.Test.YtngmpnkhdjnhoaaKUnpB
import Derived.Test.YtngmpnkhdjnhoaaDecK
import Derived.Test.YtngmpnkhdjnhoaaKSpec
import Derived.Lib.Hide
namespace Go.Proofs.Ytngmpnkhdjnhoaa.cd5
open Go Go.Proofs Go.RowKit Go.Kd
set_option linter.unusedSimpArgs false
set_option linter.unusedVariables false

theorem t_0 (f : Nat → Int) (hf : ∀ i, i < 256 → 0 ≤ f i ∧ f i ≤ 31) : ∀ r, r < 32 → enc f 5 (5 * r + 0) = f (8 * r + 0) + f (8 * r + 1) % 8 * 32 := by
  intro r hr
  have h0 := hf (8 * r + 0) (by omega)
  have h1 := hf (8 * r + 1) (by omega)
  have e : ∀ s, s < 8 → bitL f 5 (8 * (5 * r + 0) + s) = f (8 * r + (0 + s) / 5) / 2 ^ ((0 + s) % 5) % 2 := fun s hs => by
    unfold bitL
    rw [show (8 * (5 * r + 0) + s) / 5 = 8 * r + (0 + s) / 5 by omega, show (8 * (5 * r + 0) + s) % 5 = (0 + s) % 5 by omega]
  unfold enc
  simp only [octet]
  rw [e 0 (by omega), e 1 (by omega), e 2 (by omega), e 3 (by omega), e 4 (by omega), e 5 (by omega), e 6 (by omega), e 7 (by omega)]
  simp only [Nat.reduceAdd, Nat.reduceDiv, Nat.reduceMod]
  generalize f (8 * r + 0) = x0 at *
  generalize f (8 * r + 1) = x1 at *
  omega
theorem t_1 (f : Nat → Int) (hf : ∀ i, i < 256 → 0 ≤ f i ∧ f i ≤ 31) : ∀ r, r < 32 → enc f 5 (5 * r + 1) = f (8 * r + 1) / 8 + f (8 * r + 2) * 4 + f (8 * r + 3) % 2 * 128 := by
  intro r hr
  have h1 := hf (8 * r + 1) (by omega)
  have h2 := hf (8 * r + 2) (by omega)
  have h3 := hf (8 * r + 3) (by omega)
  have e : ∀ s, s < 8 → bitL f 5 (8 * (5 * r + 1) + s) = f (8 * r + (8 + s) / 5) / 2 ^ ((8 + s) % 5) % 2 := fun s hs => by
    unfold bitL
    rw [show (8 * (5 * r + 1) + s) / 5 = 8 * r + (8 + s) / 5 by omega, show (8 * (5 * r + 1) + s) % 5 = (8 + s) % 5 by omega]
  unfold enc
  simp only [octet]
  rw [e 0 (by omega), e 1 (by omega), e 2 (by omega), e 3 (by omega), e 4 (by omega), e 5 (by omega), e 6 (by omega), e 7 (by omega)]
  simp only [Nat.reduceAdd, Nat.reduceDiv, Nat.reduceMod]
  generalize f (8 * r + 1) = x1 at *
  generalize f (8 * r + 2) = x2 at *
  generalize f (8 * r + 3) = x3 at *
  omega
theorem t_2 (f : Nat → Int) (hf : ∀ i, i < 256 → 0 ≤ f i ∧ f i ≤ 31) : ∀ r, r < 32 → enc f 5 (5 * r + 2) = f (8 * r + 3) / 2 + f (8 * r + 4) % 16 * 16 := by
  intro r hr
  have h3 := hf (8 * r + 3) (by omega)
  have h4 := hf (8 * r + 4) (by omega)
  have e : ∀ s, s < 8 → bitL f 5 (8 * (5 * r + 2) + s) = f (8 * r + (16 + s) / 5) / 2 ^ ((16 + s) % 5) % 2 := fun s hs => by
    unfold bitL
    rw [show (8 * (5 * r + 2) + s) / 5 = 8 * r + (16 + s) / 5 by omega, show (8 * (5 * r + 2) + s) % 5 = (16 + s) % 5 by omega]
  unfold enc
  simp only [octet]
  rw [e 0 (by omega), e 1 (by omega), e 2 (by omega), e 3 (by omega), e 4 (by omega), e 5 (by omega), e 6 (by omega), e 7 (by omega)]
  simp only [Nat.reduceAdd, Nat.reduceDiv, Nat.reduceMod]
  generalize f (8 * r + 3) = x3 at *
  generalize f (8 * r + 4) = x4 at *
  omega
theorem t_3 (f : Nat → Int) (hf : ∀ i, i < 256 → 0 ≤ f i ∧ f i ≤ 31) : ∀ r, r < 32 → enc f 5 (5 * r + 3) = f (8 * r + 4) / 16 + f (8 * r + 5) * 2 + f (8 * r + 6) % 4 * 64 := by
  intro r hr
  have h4 := hf (8 * r + 4) (by omega)
  have h5 := hf (8 * r + 5) (by omega)
  have h6 := hf (8 * r + 6) (by omega)
  have e : ∀ s, s < 8 → bitL f 5 (8 * (5 * r + 3) + s) = f (8 * r + (24 + s) / 5) / 2 ^ ((24 + s) % 5) % 2 := fun s hs => by
    unfold bitL
    rw [show (8 * (5 * r + 3) + s) / 5 = 8 * r + (24 + s) / 5 by omega, show (8 * (5 * r + 3) + s) % 5 = (24 + s) % 5 by omega]
  unfold enc
  simp only [octet]
  rw [e 0 (by omega), e 1 (by omega), e 2 (by omega), e 3 (by omega), e 4 (by omega), e 5 (by omega), e 6 (by omega), e 7 (by omega)]
  simp only [Nat.reduceAdd, Nat.reduceDiv, Nat.reduceMod]
  generalize f (8 * r + 4) = x4 at *
  generalize f (8 * r + 5) = x5 at *
  generalize f (8 * r + 6) = x6 at *
  omega
theorem t_4 (f : Nat → Int) (hf : ∀ i, i < 256 → 0 ≤ f i ∧ f i ≤ 31) : ∀ r, r < 32 → enc f 5 (5 * r + 4) = f (8 * r + 6) / 4 + f (8 * r + 7) * 8 := by
  intro r hr
  have h6 := hf (8 * r + 6) (by omega)
  have h7 := hf (8 * r + 7) (by omega)
  have e : ∀ s, s < 8 → bitL f 5 (8 * (5 * r + 4) + s) = f (8 * r + (32 + s) / 5) / 2 ^ ((32 + s) % 5) % 2 := fun s hs => by
    unfold bitL
    rw [show (8 * (5 * r + 4) + s) / 5 = 8 * r + (32 + s) / 5 by omega, show (8 * (5 * r + 4) + s) % 5 = (32 + s) % 5 by omega]
  unfold enc
  simp only [octet]
  rw [e 0 (by omega), e 1 (by omega), e 2 (by omega), e 3 (by omega), e 4 (by omega), e 5 (by omega), e 6 (by omega), e 7 (by omega)]
  simp only [Nat.reduceAdd, Nat.reduceDiv, Nat.reduceMod]
  generalize f (8 * r + 6) = x6 at *
  generalize f (8 * r + 7) = x7 at *
  omega

theorem u_0 (f : Nat → Int) (hf : ∀ i, i < 160 → 0 ≤ f i ∧ f i ≤ 255) : ∀ r, r < 32 → decN f 5 (8 * r + 0) = (f (5 * r + 0)) % 32 := by
  intro r hr
  have h0 := hf (5 * r + 0) (by omega)
  have e : ∀ k, k < 5 → f (((8 * r + 0) * 5 + k) / 8) / 2 ^ (((8 * r + 0) * 5 + k) % 8) % 2 = f (5 * r + (0 + k) / 8) / 2 ^ ((0 + k) % 8) % 2 := fun k hk => by
    rw [show ((8 * r + 0) * 5 + k) / 8 = 5 * r + (0 + k) / 8 by omega, show ((8 * r + 0) * 5 + k) % 8 = (0 + k) % 8 by omega]
  unfold decN
  simp only [decS]
  rw [e 0 (by omega), e 1 (by omega), e 2 (by omega), e 3 (by omega), e 4 (by omega)]
  simp only [Nat.reduceAdd, Nat.reduceDiv, Nat.reduceMod]
  generalize f (5 * r + 0) = x0 at *
  omega
theorem u_1 (f : Nat → Int) (hf : ∀ i, i < 160 → 0 ≤ f i ∧ f i ≤ 255) : ∀ r, r < 32 → decN f 5 (8 * r + 1) = (f (5 * r + 0) / 32 + f (5 * r + 1) * 8 % 256) % 32 := by
  intro r hr
  have h0 := hf (5 * r + 0) (by omega)
  have h1 := hf (5 * r + 1) (by omega)
  have e : ∀ k, k < 5 → f (((8 * r + 1) * 5 + k) / 8) / 2 ^ (((8 * r + 1) * 5 + k) % 8) % 2 = f (5 * r + (5 + k) / 8) / 2 ^ ((5 + k) % 8) % 2 := fun k hk => by
    rw [show ((8 * r + 1) * 5 + k) / 8 = 5 * r + (5 + k) / 8 by omega, show ((8 * r + 1) * 5 + k) % 8 = (5 + k) % 8 by omega]
  unfold decN
  simp only [decS]
  rw [e 0 (by omega), e 1 (by omega), e 2 (by omega), e 3 (by omega), e 4 (by omega)]
  simp only [Nat.reduceAdd, Nat.reduceDiv, Nat.reduceMod]
  generalize f (5 * r + 0) = x0 at *
  generalize f (5 * r + 1) = x1 at *
  omega
theorem u_2 (f : Nat → Int) (hf : ∀ i, i < 160 → 0 ≤ f i ∧ f i ≤ 255) : ∀ r, r < 32 → decN f 5 (8 * r + 2) = (f (5 * r + 1) / 4) % 32 := by
  intro r hr
  have h1 := hf (5 * r + 1) (by omega)
  have e : ∀ k, k < 5 → f (((8 * r + 2) * 5 + k) / 8) / 2 ^ (((8 * r + 2) * 5 + k) % 8) % 2 = f (5 * r + (10 + k) / 8) / 2 ^ ((10 + k) % 8) % 2 := fun k hk => by
    rw [show ((8 * r + 2) * 5 + k) / 8 = 5 * r + (10 + k) / 8 by omega, show ((8 * r + 2) * 5 + k) % 8 = (10 + k) % 8 by omega]
  unfold decN
  simp only [decS]
  rw [e 0 (by omega), e 1 (by omega), e 2 (by omega), e 3 (by omega), e 4 (by omega)]
  simp only [Nat.reduceAdd, Nat.reduceDiv, Nat.reduceMod]
  generalize f (5 * r + 1) = x1 at *
  omega
theorem u_3 (f : Nat → Int) (hf : ∀ i, i < 160 → 0 ≤ f i ∧ f i ≤ 255) : ∀ r, r < 32 → decN f 5 (8 * r + 3) = (f (5 * r + 1) / 128 + f (5 * r + 2) * 2 % 256) % 32 := by
  intro r hr
  have h1 := hf (5 * r + 1) (by omega)
  have h2 := hf (5 * r + 2) (by omega)
  have e : ∀ k, k < 5 → f (((8 * r + 3) * 5 + k) / 8) / 2 ^ (((8 * r + 3) * 5 + k) % 8) % 2 = f (5 * r + (15 + k) / 8) / 2 ^ ((15 + k) % 8) % 2 := fun k hk => by
    rw [show ((8 * r + 3) * 5 + k) / 8 = 5 * r + (15 + k) / 8 by omega, show ((8 * r + 3) * 5 + k) % 8 = (15 + k) % 8 by omega]
  unfold decN
  simp only [decS]
  rw [e 0 (by omega), e 1 (by omega), e 2 (by omega), e 3 (by omega), e 4 (by omega)]
  simp only [Nat.reduceAdd, Nat.reduceDiv, Nat.reduceMod]
  generalize f (5 * r + 1) = x1 at *
  generalize f (5 * r + 2) = x2 at *
  omega
theorem u_4 (f : Nat → Int) (hf : ∀ i, i < 160 → 0 ≤ f i ∧ f i ≤ 255) : ∀ r, r < 32 → decN f 5 (8 * r + 4) = (f (5 * r + 2) / 16 + f (5 * r + 3) * 16 % 256) % 32 := by
  intro r hr
  have h2 := hf (5 * r + 2) (by omega)
  have h3 := hf (5 * r + 3) (by omega)
  have e : ∀ k, k < 5 → f (((8 * r + 4) * 5 + k) / 8) / 2 ^ (((8 * r + 4) * 5 + k) % 8) % 2 = f (5 * r + (20 + k) / 8) / 2 ^ ((20 + k) % 8) % 2 := fun k hk => by
    rw [show ((8 * r + 4) * 5 + k) / 8 = 5 * r + (20 + k) / 8 by omega, show ((8 * r + 4) * 5 + k) % 8 = (20 + k) % 8 by omega]
  unfold decN
  simp only [decS]
  rw [e 0 (by omega), e 1 (by omega), e 2 (by omega), e 3 (by omega), e 4 (by omega)]
  simp only [Nat.reduceAdd, Nat.reduceDiv, Nat.reduceMod]
  generalize f (5 * r + 2) = x2 at *
  generalize f (5 * r + 3) = x3 at *
  omega
theorem u_5 (f : Nat → Int) (hf : ∀ i, i < 160 → 0 ≤ f i ∧ f i ≤ 255) : ∀ r, r < 32 → decN f 5 (8 * r + 5) = (f (5 * r + 3) / 2) % 32 := by
  intro r hr
  have h3 := hf (5 * r + 3) (by omega)
  have e : ∀ k, k < 5 → f (((8 * r + 5) * 5 + k) / 8) / 2 ^ (((8 * r + 5) * 5 + k) % 8) % 2 = f (5 * r + (25 + k) / 8) / 2 ^ ((25 + k) % 8) % 2 := fun k hk => by
    rw [show ((8 * r + 5) * 5 + k) / 8 = 5 * r + (25 + k) / 8 by omega, show ((8 * r + 5) * 5 + k) % 8 = (25 + k) % 8 by omega]
  unfold decN
  simp only [decS]
  rw [e 0 (by omega), e 1 (by omega), e 2 (by omega), e 3 (by omega), e 4 (by omega)]
  simp only [Nat.reduceAdd, Nat.reduceDiv, Nat.reduceMod]
  generalize f (5 * r + 3) = x3 at *
  omega
theorem u_6 (f : Nat → Int) (hf : ∀ i, i < 160 → 0 ≤ f i ∧ f i ≤ 255) : ∀ r, r < 32 → decN f 5 (8 * r + 6) = (f (5 * r + 3) / 64 + f (5 * r + 4) * 4 % 256) % 32 := by
  intro r hr
  have h3 := hf (5 * r + 3) (by omega)
  have h4 := hf (5 * r + 4) (by omega)
  have e : ∀ k, k < 5 → f (((8 * r + 6) * 5 + k) / 8) / 2 ^ (((8 * r + 6) * 5 + k) % 8) % 2 = f (5 * r + (30 + k) / 8) / 2 ^ ((30 + k) % 8) % 2 := fun k hk => by
    rw [show ((8 * r + 6) * 5 + k) / 8 = 5 * r + (30 + k) / 8 by omega, show ((8 * r + 6) * 5 + k) % 8 = (30 + k) % 8 by omega]
  unfold decN
  simp only [decS]
  rw [e 0 (by omega), e 1 (by omega), e 2 (by omega), e 3 (by omega), e 4 (by omega)]
  simp only [Nat.reduceAdd, Nat.reduceDiv, Nat.reduceMod]
  generalize f (5 * r + 3) = x3 at *
  generalize f (5 * r + 4) = x4 at *
  omega
theorem u_7 (f : Nat → Int) (hf : ∀ i, i < 160 → 0 ≤ f i ∧ f i ≤ 255) : ∀ r, r < 32 → decN f 5 (8 * r + 7) = (f (5 * r + 4) / 8) % 32 := by
  intro r hr
  have h4 := hf (5 * r + 4) (by omega)
  have e : ∀ k, k < 5 → f (((8 * r + 7) * 5 + k) / 8) / 2 ^ (((8 * r + 7) * 5 + k) % 8) % 2 = f (5 * r + (35 + k) / 8) / 2 ^ ((35 + k) % 8) % 2 := fun k hk => by
    rw [show ((8 * r + 7) * 5 + k) / 8 = 5 * r + (35 + k) / 8 by omega, show ((8 * r + 7) * 5 + k) % 8 = (35 + k) % 8 by omega]
  unfold decN
  simp only [decS]
  rw [e 0 (by omega), e 1 (by omega), e 2 (by omega), e 3 (by omega), e 4 (by omega)]
  simp only [Nat.reduceAdd, Nat.reduceDiv, Nat.reduceMod]
  generalize f (5 * r + 4) = x4 at *
  omega

theorem sized_d (w : World) : Calls Try.prog 35 #[.int .i64 5] w fun e w' => e = .returned (.bool true) ∧ w = w' := by
  go_enter Try.func35, Try.ntmps35
  go_wp2_with fail
  go_ret
  exact ⟨rfl, rfl⟩
def G (f : Nat → Int) : Nat → Int := fun i => (6658 * decN f 5 i + 32) / 64
theorem dec_bd (f : Nat → Int) (i : Nat) : 0 ≤ decN f 5 i ∧ decN f 5 i ≤ 31 := by
  have h := decS_bd f 5 i 5
  unfold decN
  omega
theorem G_bd (f : Nat → Int) (i : Nat) : 0 ≤ G f i ∧ G f i ≤ 3328 := by
  have h := dec_bd f i
  unfold G
  omega
theorem g_0 (f : Nat → Int) (hf : ∀ i, i < 160 → 0 ≤ f i ∧ f i ≤ 255) : ∀ r, r < 32 → G f (8 * r + 0) = (16 + (f (5 * r + 0)) % 32 * 3329) / 32 := by
  intro r hr
  have h := dec_bd f (8 * r + 0)
  unfold G
  rw [← u_0 f hf r hr]
  generalize decN f 5 (8 * r + 0) = z at *
  omega
theorem g_1 (f : Nat → Int) (hf : ∀ i, i < 160 → 0 ≤ f i ∧ f i ≤ 255) : ∀ r, r < 32 → G f (8 * r + 1) = (16 + (f (5 * r + 0) / 32 + f (5 * r + 1) * 8 % 256) % 32 * 3329) / 32 := by
  intro r hr
  have h := dec_bd f (8 * r + 1)
  unfold G
  rw [← u_1 f hf r hr]
  generalize decN f 5 (8 * r + 1) = z at *
  omega
theorem g_2 (f : Nat → Int) (hf : ∀ i, i < 160 → 0 ≤ f i ∧ f i ≤ 255) : ∀ r, r < 32 → G f (8 * r + 2) = (16 + (f (5 * r + 1) / 4) % 32 * 3329) / 32 := by
  intro r hr
  have h := dec_bd f (8 * r + 2)
  unfold G
  rw [← u_2 f hf r hr]
  generalize decN f 5 (8 * r + 2) = z at *
  omega
theorem g_3 (f : Nat → Int) (hf : ∀ i, i < 160 → 0 ≤ f i ∧ f i ≤ 255) : ∀ r, r < 32 → G f (8 * r + 3) = (16 + (f (5 * r + 1) / 128 + f (5 * r + 2) * 2 % 256) % 32 * 3329) / 32 := by
  intro r hr
  have h := dec_bd f (8 * r + 3)
  unfold G
  rw [← u_3 f hf r hr]
  generalize decN f 5 (8 * r + 3) = z at *
  omega
theorem g_4 (f : Nat → Int) (hf : ∀ i, i < 160 → 0 ≤ f i ∧ f i ≤ 255) : ∀ r, r < 32 → G f (8 * r + 4) = (16 + (f (5 * r + 2) / 16 + f (5 * r + 3) * 16 % 256) % 32 * 3329) / 32 := by
  intro r hr
  have h := dec_bd f (8 * r + 4)
  unfold G
  rw [← u_4 f hf r hr]
  generalize decN f 5 (8 * r + 4) = z at *
  omega
theorem g_5 (f : Nat → Int) (hf : ∀ i, i < 160 → 0 ≤ f i ∧ f i ≤ 255) : ∀ r, r < 32 → G f (8 * r + 5) = (16 + (f (5 * r + 3) / 2) % 32 * 3329) / 32 := by
  intro r hr
  have h := dec_bd f (8 * r + 5)
  unfold G
  rw [← u_5 f hf r hr]
  generalize decN f 5 (8 * r + 5) = z at *
  omega
theorem g_6 (f : Nat → Int) (hf : ∀ i, i < 160 → 0 ≤ f i ∧ f i ≤ 255) : ∀ r, r < 32 → G f (8 * r + 6) = (16 + (f (5 * r + 3) / 64 + f (5 * r + 4) * 4 % 256) % 32 * 3329) / 32 := by
  intro r hr
  have h := dec_bd f (8 * r + 6)
  unfold G
  rw [← u_6 f hf r hr]
  generalize decN f 5 (8 * r + 6) = z at *
  omega
theorem g_7 (f : Nat → Int) (hf : ∀ i, i < 160 → 0 ≤ f i ∧ f i ≤ 255) : ∀ r, r < 32 → G f (8 * r + 7) = (16 + (f (5 * r + 4) / 8) % 32 * 3329) / 32 := by
  intro r hr
  have h := dec_bd f (8 * r + 7)
  unfold G
  rw [← u_7 f hf r hr]
  generalize decN f 5 (8 * r + 7) = z at *
  omega
theorem back_all : (List.range 32).all (fun z => ((6658 * (z : Int) + 32) / 64 * 64 + 3329) / 6658 % 32 == (z : Int)) = true := by kernel_rfl
theorem back (f : Nat → Int) (i : Nat) : (G f i * 64 + 3329) / 6658 % 32 = decN f 5 i := by
  have h := dec_bd f i
  unfold G
  generalize decN f 5 i = z at *
  obtain ⟨y, rfl⟩ := Int.eq_ofNat_of_zero_le h.1
  have h2 := List.all_eq_true.1 back_all y (List.mem_range.2 (by omega))
  exact eq_of_beq h2
theorem enc_dec (f : Nat → Int) (hf : ∀ i, i < 160 → 0 ≤ f i ∧ f i ≤ 255) : ∀ t, t < 160 → enc (decN f 5) 5 t = f t := by
  have hb : ∀ i, i < 256 → 0 ≤ decN f 5 i ∧ decN f 5 i ≤ 31 := fun i _ => dec_bd f i
  have e0 : ∀ r, r < 32 → enc (decN f 5) 5 (5 * r + 0) = f (5 * r + 0) := fun r hr => by
    rw [t_0 _ hb r hr, u_0 f hf r hr, u_1 f hf r hr]
    have h0 := hf (5 * r + 0) (by omega)
    have h1 := hf (5 * r + 1) (by omega)
    generalize f (5 * r + 0) = z0 at *
    generalize f (5 * r + 1) = z1 at *
    omega
  have e1 : ∀ r, r < 32 → enc (decN f 5) 5 (5 * r + 1) = f (5 * r + 1) := fun r hr => by
    rw [t_1 _ hb r hr, u_1 f hf r hr, u_2 f hf r hr, u_3 f hf r hr]
    have h0 := hf (5 * r + 0) (by omega)
    have h1 := hf (5 * r + 1) (by omega)
    have h2 := hf (5 * r + 2) (by omega)
    generalize f (5 * r + 0) = z0 at *
    generalize f (5 * r + 1) = z1 at *
    generalize f (5 * r + 2) = z2 at *
    omega
  have e2 : ∀ r, r < 32 → enc (decN f 5) 5 (5 * r + 2) = f (5 * r + 2) := fun r hr => by
    rw [t_2 _ hb r hr, u_3 f hf r hr, u_4 f hf r hr]
    have h1 := hf (5 * r + 1) (by omega)
    have h2 := hf (5 * r + 2) (by omega)
    have h3 := hf (5 * r + 3) (by omega)
    generalize f (5 * r + 1) = z1 at *
    generalize f (5 * r + 2) = z2 at *
    generalize f (5 * r + 3) = z3 at *
    omega
  have e3 : ∀ r, r < 32 → enc (decN f 5) 5 (5 * r + 3) = f (5 * r + 3) := fun r hr => by
    rw [t_3 _ hb r hr, u_4 f hf r hr, u_5 f hf r hr, u_6 f hf r hr]
    have h2 := hf (5 * r + 2) (by omega)
    have h3 := hf (5 * r + 3) (by omega)
    have h4 := hf (5 * r + 4) (by omega)
    generalize f (5 * r + 2) = z2 at *
    generalize f (5 * r + 3) = z3 at *
    generalize f (5 * r + 4) = z4 at *
    omega
  have e4 : ∀ r, r < 32 → enc (decN f 5) 5 (5 * r + 4) = f (5 * r + 4) := fun r hr => by
    rw [t_4 _ hb r hr, u_6 f hf r hr, u_7 f hf r hr]
    have h3 := hf (5 * r + 3) (by omega)
    have h4 := hf (5 * r + 4) (by omega)
    generalize f (5 * r + 3) = z3 at *
    generalize f (5 * r + 4) = z4 at *
    omega
  intro t ht
  obtain ⟨r, er⟩ : ∃ r, r = t / 5 := ⟨_, rfl⟩
  have hc : t = 5 * r + 0 ∨ t = 5 * r + 1 ∨ t = 5 * r + 2 ∨ t = 5 * r + 3 ∨ t = 5 * r + 4 := by omega
  rcases hc with h | h | h | h | h
  · rw [h]; exact e0 r (by omega)
  · rw [h]; exact e1 r (by omega)
  · rw [h]; exact e2 r (by omega)
  · rw [h]; exact e3 r (by omega)
  · rw [h]; exact e4 r (by omega)
set_option maxHeartbeats 2000000 in
theorem kComp_any (f l : Nat → Int) (w : World) (hf : ∀ i, i < 256 → 0 ≤ f i ∧ f i ≤ 3328) (hl0 : ∀ i, i < 256 → l i = (f i * 64 + 3329) / 6658 % 32) :
    Calls Try.prog 26 #[.agg (cellsF 256 (ints .i16 f)), .int .i64 5] w fun e w' => ∃ b, e = .returned (.tuple #[.slice (some ⟨b, 0, none⟩) 160 160, .bool true]) ∧ SlB w' b 160 (enc l 5) ∧ Ext w w' := by
  have hlb : ∀ i, i < 256 → 0 ≤ l i ∧ l i ≤ 31 := fun i hi => by rw [hl0 i hi]; omega
  have HC := fun (bx bo : Nat) (w3 : World) (h1 : Blk w3 bx 47 (cellsF 256 (ints .i16 f))) (h2 : Blk w3 bo 5 (cellsF 160 (ints .u8 fun _ => 0))) (h3 : bx ≠ bo) (h4 : Ext w w3) (h5 : w.heap.size ≤ bo) => Lib.hid (comp5.any bx bo w w3 _ f l (enc l 5) (fun _ => 0) h1.rowK h2 h3 h4 h5 hf hl0 (t_0 l hlb) (t_1 l hlb) (t_2 l hlb) (t_3 l hlb) (t_4 l hlb))
  clear hf hl0 hlb
  go_enter Try.func26, Try.ntmps26
  refine wp_region_then ?_
  refine wpList_boxA 23 (.tmp 0) _ rfl rfl rfl ?_
  simp only [Act.put, List.setIfInBounds_toArray, List.set]
  intro w1 bp hp x1 kp
  have X1 := Ext.trans (Ext.refl w) x1
  have z1 := x1.size
  have lp := kp.lt
  refine wpList_val (v := .slice none 0 0) rfl rfl ?_
  simp only [Act.put, List.setIfInBounds_toArray, List.set]
  refine wpList_val (v := .bool false) rfl rfl ?_
  simp only [Act.put, List.setIfInBounds_toArray, List.set]
  refine wp_next ?_
  go_wp2_with (first | (go_at_call 35; refine (sized_d _).mono ?_; rintro e w' ⟨rfl, rfl⟩) | (refine wpList_loadA arrK (.tmp 2) bp _ kp (size_cellsF _ _) rfl rfl rfl ?_; simp only [Act.put, List.setIfInBounds_toArray, List.set]) | (refine wpList_allocA 47 _ _ zeroP rfl rfl ?_; simp only [Act.put, List.setIfInBounds_toArray, List.set]; intro w2 bx hx x2 kx; have X2 := Ext.trans X1 x2; have lx := kx.lt; have zz := X1.size) | (refine wpList_storeA arrP (.tmp 6) (.tmp 11) bx _ _ kx (size_cellsF _ _) (size_cellsF _ _) (one_cellsF _ _ _) rfl rfl rfl rfl ?_; simp only [Act.put]; clear kx; intro w3 o3 kx; have X3 := o3.ext X2 (by omega); have z3 := o3.size) | (refine wpList_makeB Try.underlying25 infoB (.tmp 13) (.tmp 13) 160 (by omega) rfl rfl rfl rfl ?_; simp only [Act.put, List.setIfInBounds_toArray, List.set]; intro w4 bo ho x4 ko; have X4 := Ext.trans X3 x4; replace kx := kx.ext x4; have zo := X3.size) | (go_at_call 37; refine (HC bx bo _ kx ko (by omega) X4 (by omega)).out.mono ?_; rintro e w5 ⟨rfl, X5, kb⟩))
  go_ret2
  exact ⟨bo, rfl, kb.slB, X5⟩

set_option maxHeartbeats 2000000 in
theorem kDec_any (b off c : Nat) (f : Nat → Int) (w : World) (hb : SlO w b off 160 f) (hf : ∀ i, i < 160 → 0 ≤ f i ∧ f i ≤ 255) :
    Calls Try.prog 25 #[.slice (some ⟨b, off, none⟩) 160 c, .int .i64 5] w fun e w' => e = .returned (.tuple #[.agg (cellsF 256 (ints .i16 (G f))), .bool true]) ∧ Ext w w' := by
  go_enter Try.func25, Try.ntmps25
  refine wp_region_then ?_
  refine wpList_allocA 23 _ _ zeroK rfl rfl ?_
  simp only [Act.put, List.setIfInBounds_toArray, List.set]
  intro w1 br hr x1 kr
  have X1 := Ext.trans (Ext.refl w) x1
  have z1 := x1.size
  have lr := kr.lt
  refine wpList_val (v := .bool false) rfl rfl ?_
  simp only [Act.put, List.setIfInBounds_toArray, List.set]
  refine wp_next ?_
  have HB := Lib.hid (hb.ext X1)
  have lr0 := kr.lt
  have HU := fun (g bx cap : Nat) (w3 : World) (h1 : SlB w3 g 160 f) (h2 : Blk w3 bx 47 (cellsF 256 (ints .i16 fun _ => 0))) (h3 : g ≠ bx) (h4 : Ext w1 w3) (h5 : w1.heap.size ≤ bx) => Lib.hid (decomp5.any g bx cap w1 w3 _ f (G f) (fun _ => 0) h1.rowK h2 h3 h4 h5 hf (g_0 f hf) (g_1 f hf) (g_2 f hf) (g_3 f hf) (g_4 f hf) (g_5 f hf) (g_6 f hf) (g_7 f hf))
  clear hb hf
  go_wp2_with (first | (go_at_call 35; refine (sized_d _).mono ?_; rintro e w' ⟨rfl, rfl⟩) | (refine wpList_allocA 47 _ _ zeroP rfl rfl ?_; simp only [Act.put, List.setIfInBounds_toArray, List.set]; intro w2 bx hx x2 kx; have X2 := Ext.trans X1 x2; have lx := kx.lt) | (go_at_call 30; refine (clone_at b off 160 c f _ (by omega) (HB.out.ext x2)).mono ?_; rintro e w3 ⟨v, rfl, g, cap, rfl, hg, kg, x3⟩; have Y3 := Ext.trans x2 x3; replace kx := kx.ext x3) | (go_at_call 36; refine (HU g bx cap _ kg kx (by omega) Y3 (by omega)).out.mono ?_; rintro e w4 ⟨rfl, x4, k4⟩; have kr4 := kr.ext x4; have X4 := Ext.trans X1 x4) | (refine wpList_loadA arrP (.tmp 6) bx _ k4 (size_cellsF _ _) rfl rfl rfl ?_; simp only [Act.put, List.setIfInBounds_toArray, List.set]) | (refine wpList_storeA arrK (.tmp 4) (.tmp 22) br _ _ kr4 (size_cellsF _ _) (size_cellsF _ _) (one_cellsF _ _ _) rfl rfl rfl rfl ?_; simp only [Act.put]; intro w5 o5 k5))
  exact bodyPost_cell_tmp arrK rfl br _ _ k5 (size_cellsF _ _) rfl rfl rfl ⟨rfl, o5.ext X4 (by omega)⟩

end Go.Proofs.Ytngmpnkhdjnhoaa.cd5
