/- DPackT0, DUnpackT0. -/
import Derived.Test.YtgkombmhadgioaaDPackT0
import Derived.Test.YtgkombmhadgioaaDUnpackT0
import Derived.Test.YtgkombmhadgioaaClone
import Derived.Test.YtgkombmhadgioaaRet
import Derived.Test.YtgkombmhadgioaaDTab
import Derived.Lib.Hide
namespace Go.Proofs.Ytgkombmhadgioaa
open Go Go.Proofs Go.RowKit Go.Kd
set_option linter.unusedSimpArgs false
set_option linter.unusedVariables false

/-- the numbers that are packed -/
def lowT0 (f : Nat → Int) : Nat → Int := fun i => 8384513 - f i
theorem enc_bd (f : Nat → Int) (d t : Nat) : 0 ≤ enc f d t ∧ enc f d t ≤ 255 := by
  have h := octet_bd (bitL_bd f d) t 8
  unfold enc
  omega
theorem t0_0 (f : Nat → Int) (hf : ∀ i, i < 256 → 8376322 ≤ f i ∧ f i ≤ 8384513) : ∀ r, r < 32 → enc (lowT0 f) 13 (13 * r + 0) = (8384513 - f (8 * r + 0)) % 256 := by
  intro r hr
  have h0 := hf (8 * r + 0) (by omega)
  have e : ∀ s, s < 8 → bitL (lowT0 f) 13 (8 * (13 * r + 0) + s) = (8384513 - f (8 * r + (0 + s) / 13)) / 2 ^ ((0 + s) % 13) % 2 := fun s hs => by
    unfold bitL lowT0
    rw [show (8 * (13 * r + 0) + s) / 13 = 8 * r + (0 + s) / 13 by omega, show (8 * (13 * r + 0) + s) % 13 = (0 + s) % 13 by omega]
  unfold enc
  simp only [octet]
  rw [e 0 (by omega), e 1 (by omega), e 2 (by omega), e 3 (by omega), e 4 (by omega), e 5 (by omega), e 6 (by omega), e 7 (by omega)]
  simp only [Nat.reduceAdd, Nat.reduceDiv, Nat.reduceMod]
  generalize f (8 * r + 0) = x0 at *
  omega
theorem t0_1 (f : Nat → Int) (hf : ∀ i, i < 256 → 8376322 ≤ f i ∧ f i ≤ 8384513) : ∀ r, r < 32 → enc (lowT0 f) 13 (13 * r + 1) = (8384513 - f (8 * r + 0)) / 256 + (8384513 - f (8 * r + 1)) % 8 * 32 := by
  intro r hr
  have h0 := hf (8 * r + 0) (by omega)
  have h1 := hf (8 * r + 1) (by omega)
  have e : ∀ s, s < 8 → bitL (lowT0 f) 13 (8 * (13 * r + 1) + s) = (8384513 - f (8 * r + (8 + s) / 13)) / 2 ^ ((8 + s) % 13) % 2 := fun s hs => by
    unfold bitL lowT0
    rw [show (8 * (13 * r + 1) + s) / 13 = 8 * r + (8 + s) / 13 by omega, show (8 * (13 * r + 1) + s) % 13 = (8 + s) % 13 by omega]
  unfold enc
  simp only [octet]
  rw [e 0 (by omega), e 1 (by omega), e 2 (by omega), e 3 (by omega), e 4 (by omega), e 5 (by omega), e 6 (by omega), e 7 (by omega)]
  simp only [Nat.reduceAdd, Nat.reduceDiv, Nat.reduceMod]
  generalize f (8 * r + 0) = x0 at *
  generalize f (8 * r + 1) = x1 at *
  omega
theorem t0_2 (f : Nat → Int) (hf : ∀ i, i < 256 → 8376322 ≤ f i ∧ f i ≤ 8384513) : ∀ r, r < 32 → enc (lowT0 f) 13 (13 * r + 2) = (8384513 - f (8 * r + 1)) / 8 % 256 := by
  intro r hr
  have h1 := hf (8 * r + 1) (by omega)
  have e : ∀ s, s < 8 → bitL (lowT0 f) 13 (8 * (13 * r + 2) + s) = (8384513 - f (8 * r + (16 + s) / 13)) / 2 ^ ((16 + s) % 13) % 2 := fun s hs => by
    unfold bitL lowT0
    rw [show (8 * (13 * r + 2) + s) / 13 = 8 * r + (16 + s) / 13 by omega, show (8 * (13 * r + 2) + s) % 13 = (16 + s) % 13 by omega]
  unfold enc
  simp only [octet]
  rw [e 0 (by omega), e 1 (by omega), e 2 (by omega), e 3 (by omega), e 4 (by omega), e 5 (by omega), e 6 (by omega), e 7 (by omega)]
  simp only [Nat.reduceAdd, Nat.reduceDiv, Nat.reduceMod]
  generalize f (8 * r + 1) = x1 at *
  omega
theorem t0_3 (f : Nat → Int) (hf : ∀ i, i < 256 → 8376322 ≤ f i ∧ f i ≤ 8384513) : ∀ r, r < 32 → enc (lowT0 f) 13 (13 * r + 3) = (8384513 - f (8 * r + 1)) / 2048 + (8384513 - f (8 * r + 2)) % 64 * 4 := by
  intro r hr
  have h1 := hf (8 * r + 1) (by omega)
  have h2 := hf (8 * r + 2) (by omega)
  have e : ∀ s, s < 8 → bitL (lowT0 f) 13 (8 * (13 * r + 3) + s) = (8384513 - f (8 * r + (24 + s) / 13)) / 2 ^ ((24 + s) % 13) % 2 := fun s hs => by
    unfold bitL lowT0
    rw [show (8 * (13 * r + 3) + s) / 13 = 8 * r + (24 + s) / 13 by omega, show (8 * (13 * r + 3) + s) % 13 = (24 + s) % 13 by omega]
  unfold enc
  simp only [octet]
  rw [e 0 (by omega), e 1 (by omega), e 2 (by omega), e 3 (by omega), e 4 (by omega), e 5 (by omega), e 6 (by omega), e 7 (by omega)]
  simp only [Nat.reduceAdd, Nat.reduceDiv, Nat.reduceMod]
  generalize f (8 * r + 1) = x1 at *
  generalize f (8 * r + 2) = x2 at *
  omega
theorem t0_4 (f : Nat → Int) (hf : ∀ i, i < 256 → 8376322 ≤ f i ∧ f i ≤ 8384513) : ∀ r, r < 32 → enc (lowT0 f) 13 (13 * r + 4) = (8384513 - f (8 * r + 2)) / 64 + (8384513 - f (8 * r + 3)) % 2 * 128 := by
  intro r hr
  have h2 := hf (8 * r + 2) (by omega)
  have h3 := hf (8 * r + 3) (by omega)
  have e : ∀ s, s < 8 → bitL (lowT0 f) 13 (8 * (13 * r + 4) + s) = (8384513 - f (8 * r + (32 + s) / 13)) / 2 ^ ((32 + s) % 13) % 2 := fun s hs => by
    unfold bitL lowT0
    rw [show (8 * (13 * r + 4) + s) / 13 = 8 * r + (32 + s) / 13 by omega, show (8 * (13 * r + 4) + s) % 13 = (32 + s) % 13 by omega]
  unfold enc
  simp only [octet]
  rw [e 0 (by omega), e 1 (by omega), e 2 (by omega), e 3 (by omega), e 4 (by omega), e 5 (by omega), e 6 (by omega), e 7 (by omega)]
  simp only [Nat.reduceAdd, Nat.reduceDiv, Nat.reduceMod]
  generalize f (8 * r + 2) = x2 at *
  generalize f (8 * r + 3) = x3 at *
  omega
theorem t0_5 (f : Nat → Int) (hf : ∀ i, i < 256 → 8376322 ≤ f i ∧ f i ≤ 8384513) : ∀ r, r < 32 → enc (lowT0 f) 13 (13 * r + 5) = (8384513 - f (8 * r + 3)) / 2 % 256 := by
  intro r hr
  have h3 := hf (8 * r + 3) (by omega)
  have e : ∀ s, s < 8 → bitL (lowT0 f) 13 (8 * (13 * r + 5) + s) = (8384513 - f (8 * r + (40 + s) / 13)) / 2 ^ ((40 + s) % 13) % 2 := fun s hs => by
    unfold bitL lowT0
    rw [show (8 * (13 * r + 5) + s) / 13 = 8 * r + (40 + s) / 13 by omega, show (8 * (13 * r + 5) + s) % 13 = (40 + s) % 13 by omega]
  unfold enc
  simp only [octet]
  rw [e 0 (by omega), e 1 (by omega), e 2 (by omega), e 3 (by omega), e 4 (by omega), e 5 (by omega), e 6 (by omega), e 7 (by omega)]
  simp only [Nat.reduceAdd, Nat.reduceDiv, Nat.reduceMod]
  generalize f (8 * r + 3) = x3 at *
  omega
theorem t0_6 (f : Nat → Int) (hf : ∀ i, i < 256 → 8376322 ≤ f i ∧ f i ≤ 8384513) : ∀ r, r < 32 → enc (lowT0 f) 13 (13 * r + 6) = (8384513 - f (8 * r + 3)) / 512 + (8384513 - f (8 * r + 4)) % 16 * 16 := by
  intro r hr
  have h3 := hf (8 * r + 3) (by omega)
  have h4 := hf (8 * r + 4) (by omega)
  have e : ∀ s, s < 8 → bitL (lowT0 f) 13 (8 * (13 * r + 6) + s) = (8384513 - f (8 * r + (48 + s) / 13)) / 2 ^ ((48 + s) % 13) % 2 := fun s hs => by
    unfold bitL lowT0
    rw [show (8 * (13 * r + 6) + s) / 13 = 8 * r + (48 + s) / 13 by omega, show (8 * (13 * r + 6) + s) % 13 = (48 + s) % 13 by omega]
  unfold enc
  simp only [octet]
  rw [e 0 (by omega), e 1 (by omega), e 2 (by omega), e 3 (by omega), e 4 (by omega), e 5 (by omega), e 6 (by omega), e 7 (by omega)]
  simp only [Nat.reduceAdd, Nat.reduceDiv, Nat.reduceMod]
  generalize f (8 * r + 3) = x3 at *
  generalize f (8 * r + 4) = x4 at *
  omega
theorem t0_7 (f : Nat → Int) (hf : ∀ i, i < 256 → 8376322 ≤ f i ∧ f i ≤ 8384513) : ∀ r, r < 32 → enc (lowT0 f) 13 (13 * r + 7) = (8384513 - f (8 * r + 4)) / 16 % 256 := by
  intro r hr
  have h4 := hf (8 * r + 4) (by omega)
  have e : ∀ s, s < 8 → bitL (lowT0 f) 13 (8 * (13 * r + 7) + s) = (8384513 - f (8 * r + (56 + s) / 13)) / 2 ^ ((56 + s) % 13) % 2 := fun s hs => by
    unfold bitL lowT0
    rw [show (8 * (13 * r + 7) + s) / 13 = 8 * r + (56 + s) / 13 by omega, show (8 * (13 * r + 7) + s) % 13 = (56 + s) % 13 by omega]
  unfold enc
  simp only [octet]
  rw [e 0 (by omega), e 1 (by omega), e 2 (by omega), e 3 (by omega), e 4 (by omega), e 5 (by omega), e 6 (by omega), e 7 (by omega)]
  simp only [Nat.reduceAdd, Nat.reduceDiv, Nat.reduceMod]
  generalize f (8 * r + 4) = x4 at *
  omega
theorem t0_8 (f : Nat → Int) (hf : ∀ i, i < 256 → 8376322 ≤ f i ∧ f i ≤ 8384513) : ∀ r, r < 32 → enc (lowT0 f) 13 (13 * r + 8) = (8384513 - f (8 * r + 4)) / 4096 + (8384513 - f (8 * r + 5)) % 128 * 2 := by
  intro r hr
  have h4 := hf (8 * r + 4) (by omega)
  have h5 := hf (8 * r + 5) (by omega)
  have e : ∀ s, s < 8 → bitL (lowT0 f) 13 (8 * (13 * r + 8) + s) = (8384513 - f (8 * r + (64 + s) / 13)) / 2 ^ ((64 + s) % 13) % 2 := fun s hs => by
    unfold bitL lowT0
    rw [show (8 * (13 * r + 8) + s) / 13 = 8 * r + (64 + s) / 13 by omega, show (8 * (13 * r + 8) + s) % 13 = (64 + s) % 13 by omega]
  unfold enc
  simp only [octet]
  rw [e 0 (by omega), e 1 (by omega), e 2 (by omega), e 3 (by omega), e 4 (by omega), e 5 (by omega), e 6 (by omega), e 7 (by omega)]
  simp only [Nat.reduceAdd, Nat.reduceDiv, Nat.reduceMod]
  generalize f (8 * r + 4) = x4 at *
  generalize f (8 * r + 5) = x5 at *
  omega
theorem t0_9 (f : Nat → Int) (hf : ∀ i, i < 256 → 8376322 ≤ f i ∧ f i ≤ 8384513) : ∀ r, r < 32 → enc (lowT0 f) 13 (13 * r + 9) = (8384513 - f (8 * r + 5)) / 128 + (8384513 - f (8 * r + 6)) % 4 * 64 := by
  intro r hr
  have h5 := hf (8 * r + 5) (by omega)
  have h6 := hf (8 * r + 6) (by omega)
  have e : ∀ s, s < 8 → bitL (lowT0 f) 13 (8 * (13 * r + 9) + s) = (8384513 - f (8 * r + (72 + s) / 13)) / 2 ^ ((72 + s) % 13) % 2 := fun s hs => by
    unfold bitL lowT0
    rw [show (8 * (13 * r + 9) + s) / 13 = 8 * r + (72 + s) / 13 by omega, show (8 * (13 * r + 9) + s) % 13 = (72 + s) % 13 by omega]
  unfold enc
  simp only [octet]
  rw [e 0 (by omega), e 1 (by omega), e 2 (by omega), e 3 (by omega), e 4 (by omega), e 5 (by omega), e 6 (by omega), e 7 (by omega)]
  simp only [Nat.reduceAdd, Nat.reduceDiv, Nat.reduceMod]
  generalize f (8 * r + 5) = x5 at *
  generalize f (8 * r + 6) = x6 at *
  omega
theorem t0_10 (f : Nat → Int) (hf : ∀ i, i < 256 → 8376322 ≤ f i ∧ f i ≤ 8384513) : ∀ r, r < 32 → enc (lowT0 f) 13 (13 * r + 10) = (8384513 - f (8 * r + 6)) / 4 % 256 := by
  intro r hr
  have h6 := hf (8 * r + 6) (by omega)
  have e : ∀ s, s < 8 → bitL (lowT0 f) 13 (8 * (13 * r + 10) + s) = (8384513 - f (8 * r + (80 + s) / 13)) / 2 ^ ((80 + s) % 13) % 2 := fun s hs => by
    unfold bitL lowT0
    rw [show (8 * (13 * r + 10) + s) / 13 = 8 * r + (80 + s) / 13 by omega, show (8 * (13 * r + 10) + s) % 13 = (80 + s) % 13 by omega]
  unfold enc
  simp only [octet]
  rw [e 0 (by omega), e 1 (by omega), e 2 (by omega), e 3 (by omega), e 4 (by omega), e 5 (by omega), e 6 (by omega), e 7 (by omega)]
  simp only [Nat.reduceAdd, Nat.reduceDiv, Nat.reduceMod]
  generalize f (8 * r + 6) = x6 at *
  omega
theorem t0_11 (f : Nat → Int) (hf : ∀ i, i < 256 → 8376322 ≤ f i ∧ f i ≤ 8384513) : ∀ r, r < 32 → enc (lowT0 f) 13 (13 * r + 11) = (8384513 - f (8 * r + 6)) / 1024 + (8384513 - f (8 * r + 7)) % 32 * 8 := by
  intro r hr
  have h6 := hf (8 * r + 6) (by omega)
  have h7 := hf (8 * r + 7) (by omega)
  have e : ∀ s, s < 8 → bitL (lowT0 f) 13 (8 * (13 * r + 11) + s) = (8384513 - f (8 * r + (88 + s) / 13)) / 2 ^ ((88 + s) % 13) % 2 := fun s hs => by
    unfold bitL lowT0
    rw [show (8 * (13 * r + 11) + s) / 13 = 8 * r + (88 + s) / 13 by omega, show (8 * (13 * r + 11) + s) % 13 = (88 + s) % 13 by omega]
  unfold enc
  simp only [octet]
  rw [e 0 (by omega), e 1 (by omega), e 2 (by omega), e 3 (by omega), e 4 (by omega), e 5 (by omega), e 6 (by omega), e 7 (by omega)]
  simp only [Nat.reduceAdd, Nat.reduceDiv, Nat.reduceMod]
  generalize f (8 * r + 6) = x6 at *
  generalize f (8 * r + 7) = x7 at *
  omega
theorem t0_12 (f : Nat → Int) (hf : ∀ i, i < 256 → 8376322 ≤ f i ∧ f i ≤ 8384513) : ∀ r, r < 32 → enc (lowT0 f) 13 (13 * r + 12) = (8384513 - f (8 * r + 7)) / 32 := by
  intro r hr
  have h7 := hf (8 * r + 7) (by omega)
  have e : ∀ s, s < 8 → bitL (lowT0 f) 13 (8 * (13 * r + 12) + s) = (8384513 - f (8 * r + (96 + s) / 13)) / 2 ^ ((96 + s) % 13) % 2 := fun s hs => by
    unfold bitL lowT0
    rw [show (8 * (13 * r + 12) + s) / 13 = 8 * r + (96 + s) / 13 by omega, show (8 * (13 * r + 12) + s) % 13 = (96 + s) % 13 by omega]
  unfold enc
  simp only [octet]
  rw [e 0 (by omega), e 1 (by omega), e 2 (by omega), e 3 (by omega), e 4 (by omega), e 5 (by omega), e 6 (by omega), e 7 (by omega)]
  simp only [Nat.reduceAdd, Nat.reduceDiv, Nat.reduceMod]
  generalize f (8 * r + 7) = x7 at *
  omega
theorem v0_0 (f : Nat → Int) (hf : ∀ i, i < 256 → 8376322 ≤ f i ∧ f i ≤ 8384513) : ∀ r, r < 32 → f (8 * r + 0) = 8384513 - (enc (lowT0 f) 13 (13 * r + 0) + enc (lowT0 f) 13 (13 * r + 1) % 32 * 256) := by
  intro r hr
  have h0 := hf (8 * r + 0) (by omega)
  have h1 := hf (8 * r + 1) (by omega)
  rw [t0_0 f hf r hr, t0_1 f hf r hr]
  generalize f (8 * r + 0) = x0 at *
  generalize f (8 * r + 1) = x1 at *
  omega
theorem v0_1 (f : Nat → Int) (hf : ∀ i, i < 256 → 8376322 ≤ f i ∧ f i ≤ 8384513) : ∀ r, r < 32 → f (8 * r + 1) = 8384513 - (enc (lowT0 f) 13 (13 * r + 1) / 32 + enc (lowT0 f) 13 (13 * r + 2) * 8 + enc (lowT0 f) 13 (13 * r + 3) % 4 * 2048) := by
  intro r hr
  have h0 := hf (8 * r + 0) (by omega)
  have h1 := hf (8 * r + 1) (by omega)
  have h2 := hf (8 * r + 2) (by omega)
  rw [t0_1 f hf r hr, t0_2 f hf r hr, t0_3 f hf r hr]
  generalize f (8 * r + 0) = x0 at *
  generalize f (8 * r + 1) = x1 at *
  generalize f (8 * r + 2) = x2 at *
  omega
theorem v0_2 (f : Nat → Int) (hf : ∀ i, i < 256 → 8376322 ≤ f i ∧ f i ≤ 8384513) : ∀ r, r < 32 → f (8 * r + 2) = 8384513 - (enc (lowT0 f) 13 (13 * r + 3) / 4 + enc (lowT0 f) 13 (13 * r + 4) % 128 * 64) := by
  intro r hr
  have h1 := hf (8 * r + 1) (by omega)
  have h2 := hf (8 * r + 2) (by omega)
  have h3 := hf (8 * r + 3) (by omega)
  rw [t0_3 f hf r hr, t0_4 f hf r hr]
  generalize f (8 * r + 1) = x1 at *
  generalize f (8 * r + 2) = x2 at *
  generalize f (8 * r + 3) = x3 at *
  omega
theorem v0_3 (f : Nat → Int) (hf : ∀ i, i < 256 → 8376322 ≤ f i ∧ f i ≤ 8384513) : ∀ r, r < 32 → f (8 * r + 3) = 8384513 - (enc (lowT0 f) 13 (13 * r + 4) / 128 + enc (lowT0 f) 13 (13 * r + 5) * 2 + enc (lowT0 f) 13 (13 * r + 6) % 16 * 512) := by
  intro r hr
  have h2 := hf (8 * r + 2) (by omega)
  have h3 := hf (8 * r + 3) (by omega)
  have h4 := hf (8 * r + 4) (by omega)
  rw [t0_4 f hf r hr, t0_5 f hf r hr, t0_6 f hf r hr]
  generalize f (8 * r + 2) = x2 at *
  generalize f (8 * r + 3) = x3 at *
  generalize f (8 * r + 4) = x4 at *
  omega
theorem v0_4 (f : Nat → Int) (hf : ∀ i, i < 256 → 8376322 ≤ f i ∧ f i ≤ 8384513) : ∀ r, r < 32 → f (8 * r + 4) = 8384513 - (enc (lowT0 f) 13 (13 * r + 6) / 16 + enc (lowT0 f) 13 (13 * r + 7) * 16 + enc (lowT0 f) 13 (13 * r + 8) % 2 * 4096) := by
  intro r hr
  have h3 := hf (8 * r + 3) (by omega)
  have h4 := hf (8 * r + 4) (by omega)
  have h5 := hf (8 * r + 5) (by omega)
  rw [t0_6 f hf r hr, t0_7 f hf r hr, t0_8 f hf r hr]
  generalize f (8 * r + 3) = x3 at *
  generalize f (8 * r + 4) = x4 at *
  generalize f (8 * r + 5) = x5 at *
  omega
theorem v0_5 (f : Nat → Int) (hf : ∀ i, i < 256 → 8376322 ≤ f i ∧ f i ≤ 8384513) : ∀ r, r < 32 → f (8 * r + 5) = 8384513 - (enc (lowT0 f) 13 (13 * r + 8) / 2 + enc (lowT0 f) 13 (13 * r + 9) % 64 * 128) := by
  intro r hr
  have h4 := hf (8 * r + 4) (by omega)
  have h5 := hf (8 * r + 5) (by omega)
  have h6 := hf (8 * r + 6) (by omega)
  rw [t0_8 f hf r hr, t0_9 f hf r hr]
  generalize f (8 * r + 4) = x4 at *
  generalize f (8 * r + 5) = x5 at *
  generalize f (8 * r + 6) = x6 at *
  omega
theorem v0_6 (f : Nat → Int) (hf : ∀ i, i < 256 → 8376322 ≤ f i ∧ f i ≤ 8384513) : ∀ r, r < 32 → f (8 * r + 6) = 8384513 - (enc (lowT0 f) 13 (13 * r + 9) / 64 + enc (lowT0 f) 13 (13 * r + 10) * 4 + enc (lowT0 f) 13 (13 * r + 11) % 8 * 1024) := by
  intro r hr
  have h5 := hf (8 * r + 5) (by omega)
  have h6 := hf (8 * r + 6) (by omega)
  have h7 := hf (8 * r + 7) (by omega)
  rw [t0_9 f hf r hr, t0_10 f hf r hr, t0_11 f hf r hr]
  generalize f (8 * r + 5) = x5 at *
  generalize f (8 * r + 6) = x6 at *
  generalize f (8 * r + 7) = x7 at *
  omega
theorem v0_7 (f : Nat → Int) (hf : ∀ i, i < 256 → 8376322 ≤ f i ∧ f i ≤ 8384513) : ∀ r, r < 32 → f (8 * r + 7) = 8384513 - (enc (lowT0 f) 13 (13 * r + 11) / 8 + enc (lowT0 f) 13 (13 * r + 12) * 32) := by
  intro r hr
  have h6 := hf (8 * r + 6) (by omega)
  have h7 := hf (8 * r + 7) (by omega)
  rw [t0_11 f hf r hr, t0_12 f hf r hr]
  generalize f (8 * r + 6) = x6 at *
  generalize f (8 * r + 7) = x7 at *
  omega
theorem dPackT0_any (f : Nat → Int) (w : World) (hf : ∀ i, i < 256 → 8376322 ≤ f i ∧ f i ≤ 8384513) :
    Calls Try.prog 41 #[.agg (cellsF 256 (ints .u32 f))] w fun e w' => ∃ v, e = .returned v ∧ ∃ b, v = .slice (some ⟨b, 0, none⟩) 416 416 ∧ SlB w' b 416 (enc (lowT0 f) 13) ∧ Ext w w' := by
  go_enter Try.func41, Try.ntmps41
  refine wp_region_then ?_
  refine wpList_boxA 27 (.tmp 0) _ rfl rfl rfl ?_
  simp only [Act.put, List.setIfInBounds_toArray, List.set]
  intro w1 bp hp x1 kp
  have X1 := Ext.trans (Ext.refl w) x1
  have z1 := x1.size
  have lp := kp.lt
  refine wpList_val (v := .slice none 0 0) rfl rfl ?_
  simp only [Act.put, List.setIfInBounds_toArray, List.set]
  refine wp_next (wp_region_then ?_)
  refine wpList_loadA arrK (.tmp 1) bp _ kp (size_cellsF _ _) rfl rfl rfl ?_
  simp only [Act.put, List.setIfInBounds_toArray, List.set]
  refine wpList_allocA 52 _ _ zeroP rfl rfl ?_
  simp only [Act.put, List.setIfInBounds_toArray, List.set]
  intro w2 bx hx x2 kx
  have X2 := Ext.trans X1 x2
  have z2 := x2.size
  replace kp := kp.ext x2
  have lx := kx.lt
  refine wpList_storeA arrP (.tmp 3) (.tmp 5) bx _ _ kx (size_cellsF _ _) (size_cellsF _ _) (one_cellsF _ _ _) rfl rfl rfl rfl ?_
  simp only [Act.put]
  clear kx
  intro w3 o3 kx
  have X3 := o3.ext X2 (by omega)
  have z3 := o3.size
  replace kp := o3.blk (by omega) kp
  refine wp_next (wp_region_then ?_)
  refine wpList_makeB Try.underlying46 infoB (.const (.int .i64 416)) (.const (.int .i64 416)) 416 (by omega) rfl rfl rfl rfl ?_
  simp only [Act.put, List.setIfInBounds_toArray, List.set]
  intro w4 bo ho x4 ko
  have X4 := Ext.trans X3 x4
  have z4 := x4.size
  replace kp := kp.ext x4
  replace kx := kx.ext x4
  have lo := ko.lt
  refine wpList_val (v := .slice (some ⟨bo, 0, none⟩) 416 416) rfl rfl ?_
  simp only [Act.put, List.setIfInBounds_toArray, List.set]
  refine wp_next ?_
  have hne : bx ≠ bo := by omega
  have H := Lib.hid (packT0_any bx bo w4 _ f (enc (lowT0 f) 13) (fun _ => 0) kx.rowK ko hne hf (t0_0 f hf) (t0_1 f hf) (t0_2 f hf) (t0_3 f hf) (t0_4 f hf) (t0_5 f hf) (t0_6 f hf) (t0_7 f hf) (t0_8 f hf) (t0_9 f hf) (t0_10 f hf) (t0_11 f hf) (t0_12 f hf))
  have HX := Lib.hid X4
  have hw0 : w.heap.size ≤ bo := by omega
  clear hf
  go_wp2_with (go_at_call 62; refine H.out.mono ?_; rintro e w' ⟨rfl, on, hk⟩)
  go_ret
  exact ⟨_, rfl, bo, rfl, hk.slB, on.ext HX.out hw0⟩

theorem dUnpackT0_any (b c : Nat) (f G : Nat → Int) (w : World) (hb : SlB w b 416 f) (hf : ∀ i, i < 416 → 0 ≤ f i ∧ f i ≤ 255) (hG0 : ∀ r, r < 32 → G (8 * r + 0) = 8384513 - (f (13 * r + 0) + f (13 * r + 1) % 32 * 256)) (hG1 : ∀ r, r < 32 → G (8 * r + 1) = 8384513 - (f (13 * r + 1) / 32 + f (13 * r + 2) * 8 + f (13 * r + 3) % 4 * 2048)) (hG2 : ∀ r, r < 32 → G (8 * r + 2) = 8384513 - (f (13 * r + 3) / 4 + f (13 * r + 4) % 128 * 64)) (hG3 : ∀ r, r < 32 → G (8 * r + 3) = 8384513 - (f (13 * r + 4) / 128 + f (13 * r + 5) * 2 + f (13 * r + 6) % 16 * 512)) (hG4 : ∀ r, r < 32 → G (8 * r + 4) = 8384513 - (f (13 * r + 6) / 16 + f (13 * r + 7) * 16 + f (13 * r + 8) % 2 * 4096)) (hG5 : ∀ r, r < 32 → G (8 * r + 5) = 8384513 - (f (13 * r + 8) / 2 + f (13 * r + 9) % 64 * 128)) (hG6 : ∀ r, r < 32 → G (8 * r + 6) = 8384513 - (f (13 * r + 9) / 64 + f (13 * r + 10) * 4 + f (13 * r + 11) % 8 * 1024)) (hG7 : ∀ r, r < 32 → G (8 * r + 7) = 8384513 - (f (13 * r + 11) / 8 + f (13 * r + 12) * 32)) :
    Calls Try.prog 42 #[.slice (some ⟨b, 0, none⟩) 416 c] w fun e w' => e = .returned (.tuple #[.agg (cellsF 256 (ints .u32 G)), .bool true]) ∧ Ext w w' := by
  go_enter Try.func42, Try.ntmps42
  refine wp_region_then ?_
  refine wpList_allocA 27 _ _ zeroK rfl rfl ?_
  simp only [Act.put, List.setIfInBounds_toArray, List.set]
  intro w1 br hr x1 kr
  have X1 := Ext.trans (Ext.refl w) x1
  have z1 := x1.size
  have lr := kr.lt
  refine wpList_val (v := .bool false) rfl rfl ?_
  simp only [Act.put, List.setIfInBounds_toArray, List.set]
  refine wp_next ?_
  have HB := Lib.hid (hb.ext X1)
  have HU := fun (g bx cap : Nat) (w3 : World) (h1 : SlB w3 g 416 f) (h2 : Blk w3 bx 52 (cellsF 256 (ints .u32 fun _ => 0))) (h3 : g ≠ bx) => Lib.hid (unpackT0_any g bx cap w3 _ f G (fun _ => 0) h1.rowK h2 h3 hf hG0 hG1 hG2 hG3 hG4 hG5 hG6 hG7)
  clear hb hf hG0 hG1 hG2 hG3 hG4 hG5 hG6 hG7
  go_wp2_with (first | (refine wpList_allocA 52 _ _ zeroP rfl rfl ?_; simp only [Act.put, List.setIfInBounds_toArray, List.set]; intro w2 bx hx x2 kx; have X2 := Ext.trans X1 x2; replace kr := kr.ext x2; have lx := kx.lt) | (go_at_call 59; refine (clone_any b 416 c f _ (by omega) (HB.out.ext x2)).mono ?_; rintro e w3 ⟨v, rfl, g, cap, rfl, hg, kg, x3⟩; have X3 := Ext.trans X2 x3; replace kr := kr.ext x3; replace kx := kx.ext x3) | (go_at_call 63; refine (HU g bx cap _ kg kx (by omega)).out.mono ?_; rintro e w4 ⟨rfl, o4, k4⟩; have kr4 := o4.blk (by omega) kr; have X4 := o4.ext X3 (by omega)) | (refine wpList_loadA arrP (.tmp 4) bx _ k4 (size_cellsF _ _) rfl rfl rfl ?_; simp only [Act.put, List.setIfInBounds_toArray, List.set]) | (refine wpList_storeA arrK (.tmp 2) (.tmp 12) br _ _ kr4 (size_cellsF _ _) (size_cellsF _ _) (one_cellsF _ _ _) rfl rfl rfl rfl ?_; simp only [Act.put]; intro w5 o5 k5))
  exact bodyPost_cell_tmp arrK rfl br _ _ k5 (size_cellsF _ _) rfl rfl rfl ⟨rfl, o5.ext X4 (by omega)⟩

end Go.Proofs.Ytgkombmhadgioaa
