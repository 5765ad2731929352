/- The layers of Dilithium's transform, forth and back, and of the reference's: plain laws. -/
import Derived.Test.YtnehgjpphojhlaaDoorLay
import Derived.Test.YtnehgjpphojhlaaDoorDZetas
import Derived.Test.YtnehgjpphojhlaaDoorDField
namespace Go.Proofs.YtnehgjpphojhlaaDoor
open Go Go.Proofs Go.RowKit Go.Kd
def lenD (n : Nat) : Nat := 128 / 2 ^ n
def zz (k : Nat) : Int := pw 1753 8380417 (rv 8 0 (k : Nat)).toNat
def dA (n b : Nat) (x y : Int) : Int := x + montD (zs.getD (2 ^ n + b) 0 * y)
def dB (n b : Nat) (x y : Int) : Int := x + (16760834 - montD (zs.getD (2 ^ n + b) 0 * y))
def FD (f : Nat → Int) : Nat → Nat → Int := runs lenD dA dB f
def sA (n b : Nat) (x y : Int) : Int := (x + zz (2 ^ n + b) * y % 8380417) % 8380417
def sB (n b : Nat) (x y : Int) : Int := (x - zz (2 ^ n + b) * y % 8380417) % 8380417
def SD (f : Nat → Int) : Nat → Nat → Int := runs lenD sA sB f
theorem len_facts : ∀ n, n < 8 → 1 ≤ lenD n ∧ lenD n ≤ 128 ∧ lenD (n + 1) = lenD n / 2 ∧ 2 * lenD n * 2 ^ n = 256 ∧ 1 ≤ 2 ^ n ∧ 2 ^ n ≤ 128 ∧ 2 ^ (n + 1) = 2 * 2 ^ n := by decide
theorem dom_facts (n i : Nat) (hn : n < 8) (hi : i < 256) : (i % (2 * lenD n) < lenD n → i + lenD n < 256) ∧ (¬ i % (2 * lenD n) < lenD n → lenD n ≤ i) ∧ 2 ^ n + i / (2 * lenD n) < 256 := by
  have h : n = 0 ∨ n = 1 ∨ n = 2 ∨ n = 3 ∨ n = 4 ∨ n = 5 ∨ n = 6 ∨ n = 7 := by omega
  rcases h with h | h | h | h | h | h | h | h <;> subst h <;> simp only [lenD, Nat.reducePow, Nat.reduceDiv, Nat.reduceMul] <;> omega
theorem zs_bd (k : Nat) (hk : k < 256) : 0 ≤ zs.getD k 0 ∧ zs.getD k 0 ≤ 8380417 := ⟨(zs_is ⟨k, hk⟩).2.1, (zs_is ⟨k, hk⟩).2.2⟩
theorem is_bd (k : Nat) (hk : k < 256) : 0 ≤ is.getD k 0 ∧ is.getD k 0 ≤ 8380417 := ⟨(is_is ⟨k, hk⟩).2.1, (is_is ⟨k, hk⟩).2.2⟩
theorem zz_bd (k : Nat) : 0 ≤ zz k ∧ zz k < 8380417 := pw_bd 1753 8380417 (by omega) _
theorem prod_bd (z y Y : Int) (hz : 0 ≤ z ∧ z ≤ 8380417) (hy : 0 ≤ y ∧ y ≤ Y) : 0 ≤ z * y ∧ z * y ≤ 8380417 * Y := by
  have h1 : z * y ≤ z * Y := Int.mul_le_mul_of_nonneg_left hy.2 hz.1
  have h2 : z * Y ≤ 8380417 * Y := Int.mul_le_mul_of_nonneg_right hz.2 (by omega)
  exact ⟨Int.mul_nonneg hz.1 hy.1, by omega⟩
theorem mont_prod (z y : Int) (hz : 0 ≤ z ∧ z ≤ 8380417) (hy : 0 ≤ y ∧ y ≤ 4290773503) : 0 ≤ montD (z * y) ∧ montD (z * y) < 16760834 := by
  have h := prod_bd z y 4290773503 hz hy
  exact montD_bd _ (by omega)
theorem FD_bd (f : Nat → Int) (hf : ∀ i, i < 256 → 0 ≤ f i ∧ f i < 16760834) : ∀ n, n ≤ 8 → ∀ i, i < 256 → 0 ≤ FD f n i ∧ FD f n i < 16760834 * (n + 1)
  | 0, _, i, hi => by have h := hf i hi; unfold FD runs; omega
  | n + 1, hn, i, hi => by
    have ih := FD_bd f hf n (by omega)
    obtain ⟨d1, d2, d3⟩ := dom_facts n i (by omega) hi
    show _ ≤ lay (lenD n) (dA n) (dB n) (FD f n) i ∧ lay (lenD n) (dA n) (dB n) (FD f n) i < _
    unfold lay dA dB
    by_cases h : i % (2 * lenD n) < lenD n
    · rw [if_pos h]
      have h1 := ih i hi
      have h2 := ih (i + lenD n) (d1 h)
      have h3 := mont_prod _ (FD f n (i + lenD n)) (zs_bd _ d3) (by omega)
      omega
    · rw [if_neg h]
      have h1 := ih (i - lenD n) (by omega)
      have h2 := ih i hi
      have h3 := mont_prod _ (FD f n i) (zs_bd _ d3) (by omega)
      omega
/-- the same modulo the prime -/
def cg (a b : Int) : Prop := ∃ c, a = b + 8380417 * c
theorem cg.refl (a : Int) : cg a a := ⟨0, by omega⟩
theorem cg.symm {a b : Int} (h : cg a b) : cg b a := let ⟨c, hc⟩ := h; ⟨-c, by omega⟩
theorem cg.trans {a b c : Int} (h : cg a b) (k : cg b c) : cg a c := let ⟨x, hx⟩ := h; let ⟨y, hy⟩ := k; ⟨x + y, by omega⟩
theorem cg.add {a b c d : Int} (h : cg a b) (k : cg c d) : cg (a + c) (b + d) := let ⟨x, hx⟩ := h; let ⟨y, hy⟩ := k; ⟨x + y, by omega⟩
theorem cg.sub {a b c d : Int} (h : cg a b) (k : cg c d) : cg (a - c) (b - d) := let ⟨x, hx⟩ := h; let ⟨y, hy⟩ := k; ⟨x - y, by omega⟩
theorem cg.mul (z : Int) {a b : Int} (h : cg a b) : cg (z * a) (z * b) := let ⟨x, hx⟩ := h; ⟨z * x, by rw [hx, Int.mul_add, Int.mul_left_comm]⟩
theorem cg.mul2 {a b : Int} (z : Int) (h : cg a b) : cg (a * z) (b * z) := by rw [Int.mul_comm a, Int.mul_comm b]; exact h.mul z
theorem cg.mod {a b : Int} (h : cg a b) : a % 8380417 = b % 8380417 := let ⟨c, hc⟩ := h; by omega
theorem cg.of {a b : Int} (h : a % 8380417 = b % 8380417) : cg a b := ⟨(a - b) / 8380417, by omega⟩
/-- the product with a number that stands for another times 2^32 -/
theorem montD_root (Z z y : Int) (h : cg Z (z * 4294967296)) : cg (montD (Z * y)) (z * y) := by
  obtain ⟨v, hv⟩ := h
  have h2 := montD_mul (Z * y)
  obtain ⟨u, hu⟩ : ∃ u, u = (Z * y * 4236238847) % 4294967296 := ⟨_, rfl⟩
  rw [← hu] at h2
  have h4 : Z * y = z * y * 4294967296 + 8380417 * (v * y) := by rw [hv, Int.add_mul, Int.mul_assoc, Int.mul_assoc, Int.mul_assoc, Int.mul_comm 4294967296 y]
  refine ⟨8265825 * (v * y + u) - 4236238847 * (montD (Z * y) - z * y), ?_⟩
  generalize montD (Z * y) = t at *
  generalize Z * y = p at *
  generalize z * y = q at *
  generalize v * y = s at *
  omega
theorem zs_cg (k : Nat) (hk : k < 256) : cg (zs.getD k 0) (zz k * 4294967296) := cg.of (zs_is ⟨k, hk⟩).1
theorem is_cg (k : Nat) (hk : k < 256) : cg (is.getD k 0) (-zz (255 - k) * 4294967296) := by
  refine cg.of ?_
  have h := (is_is ⟨k, hk⟩).1
  rw [Int.neg_mul]
  rw [show zz (255 - k) = pw 1753 8380417 (rv 8 0 (255 - (k : Int))).toNat by unfold zz; rw [Int.ofNat_sub (by omega)]; rfl]
  exact h
theorem mont_cg (k : Nat) (hk : k < 256) {y y' : Int} (h : cg y y') : cg (montD (zs.getD k 0 * y)) (zz k * y') := (montD_root _ _ y (zs_cg k hk)).trans (h.mul _)
theorem SD_is (f : Nat → Int) : ∀ n, n ≤ 8 → ∀ i, i < 256 → SD (fun i => f i % 8380417) n i = FD f n i % 8380417
  | 0, _, i, hi => rfl
  | n + 1, hn, i, hi => by
    have ih := SD_is f n (by omega)
    obtain ⟨d1, d2, d3⟩ := dom_facts n i (by omega) hi
    show lay (lenD n) (sA n) (sB n) (SD (fun i => f i % 8380417) n) i = lay (lenD n) (dA n) (dB n) (FD f n) i % 8380417
    have e : ∀ x y : Int, cg (x % 8380417 + zz (2 ^ n + i / (2 * lenD n)) * (y % 8380417) % 8380417) (x + montD (zs.getD (2 ^ n + i / (2 * lenD n)) 0 * y)) ∧ cg (x % 8380417 - zz (2 ^ n + i / (2 * lenD n)) * (y % 8380417) % 8380417) (x + (16760834 - montD (zs.getD (2 ^ n + i / (2 * lenD n)) 0 * y))) := fun x y => by
      have h1 : cg (montD (zs.getD (2 ^ n + i / (2 * lenD n)) 0 * y)) (zz (2 ^ n + i / (2 * lenD n)) * (y % 8380417)) := mont_cg _ d3 (cg.of (Int.emod_emod_of_dvd _ (Int.dvd_refl _)).symm)
      have h2 : cg (zz (2 ^ n + i / (2 * lenD n)) * (y % 8380417) % 8380417) (zz (2 ^ n + i / (2 * lenD n)) * (y % 8380417)) := cg.of (Int.emod_emod_of_dvd _ (Int.dvd_refl _))
      have h3 : cg (x % 8380417) x := cg.of (Int.emod_emod_of_dvd _ (Int.dvd_refl _))
      have h4 := h2.trans h1.symm
      refine ⟨h3.add h4, ?_⟩
      have h5 := h3.sub h4
      obtain ⟨c, hc⟩ := h5
      exact ⟨c - 2, by omega⟩
    unfold lay dA dB sA sB
    by_cases h : i % (2 * lenD n) < lenD n
    · rw [if_pos h, if_pos h, ih i hi, ih (i + lenD n) (d1 h)]
      exact (e _ _).1.mod
    · rw [if_neg h, if_neg h, ih i hi, ih (i - lenD n) (by omega)]
      exact (e _ _).2.mod
theorem mont0 (z : Int) : montD (z * 0) = 0 := by rw [Int.mul_zero]; decide
/-- the first number of the transform of 1 is 1 -/
theorem FD_one (f : Nat → Int) (h0 : f 0 = 1) (h1 : ∀ i, 0 < i → f i = 0) : ∀ n, n ≤ 8 → FD f n 0 = 1 ∧ ∀ j, 0 < j → j < 2 * lenD n → FD f n j = 0
  | 0, _ => ⟨h0, fun j hj _ => h1 j hj⟩
  | n + 1, hn => by
    obtain ⟨ih0, ih1⟩ := FD_one f h0 h1 n (by omega)
    obtain ⟨l1, l2, l3, l4, l5, l6, l7⟩ := len_facts n (by omega)
    constructor
    · show lay (lenD n) (dA n) (dB n) (FD f n) 0 = 1
      unfold lay dA
      rw [if_pos (by rw [Nat.zero_mod]; omega), ih0, ih1 (0 + lenD n) (by omega) (by omega), mont0]
      rfl
    · intro j hj hj2
      show lay (lenD n) (dA n) (dB n) (FD f n) j = 0
      unfold lay dA
      rw [if_pos (by rw [Nat.mod_eq_of_lt (by omega)]; omega), ih1 j hj (by omega), ih1 (j + lenD n) (by omega) (by omega), mont0]
      rfl

/-! ### Back -/
def lenI (n : Nat) : Nat := 2 ^ n
def istart (n : Nat) : Nat := 256 - 256 / 2 ^ n
def iA (_ _ : Nat) (x y : Int) : Int := x + y
def iB (n b : Nat) (x y : Int) : Int := montD (is.getD (istart n + b) 0 * (x + (2145386752 - y)))
def GD (f : Nat → Int) : Nat → Nat → Int := runs lenI iA iB f
def ID (f : Nat → Int) (i : Nat) : Int := montD (41978 * GD f 8 i)
theorem lenI_facts : ∀ n, n < 8 → 1 ≤ lenI n ∧ lenI n ≤ 128 ∧ lenI (n + 1) = 2 * lenI n ∧ 2 * lenI n * (128 / 2 ^ n) = 256 ∧ 1 ≤ 128 / 2 ^ n ∧ 128 / 2 ^ n ≤ 128 ∧ istart n + 128 / 2 ^ n = istart (n + 1) ∧ istart (n + 1) ≤ 255 ∧ lenI n = lenD (7 - n) := by decide
theorem domI_facts (n i : Nat) (hn : n < 8) (hi : i < 256) : (i % (2 * lenI n) < lenI n → i + lenI n < 256) ∧ (¬ i % (2 * lenI n) < lenI n → lenI n ≤ i) ∧ i / (2 * lenI n) < 128 / 2 ^ n := by
  have h : n = 0 ∨ n = 1 ∨ n = 2 ∨ n = 3 ∨ n = 4 ∨ n = 5 ∨ n = 6 ∨ n = 7 := by omega
  rcases h with h | h | h | h | h | h | h | h <;> subst h <;> simp only [lenI, Nat.reducePow, Nat.reduceDiv, Nat.reduceMul] <;> omega
theorem pow_facts : ∀ n, n < 8 → (1 : Int) ≤ 2 ^ n ∧ (2 : Int) ^ n ≤ 128 ∧ (2 : Int) ^ (n + 1) = 2 * 2 ^ n := by decide
theorem GD_bd (f : Nat → Int) (hf : ∀ i, i < 256 → 0 ≤ f i ∧ f i < 16760834) : ∀ n, n ≤ 8 → ∀ i, i < 256 → 0 ≤ GD f n i ∧ GD f n i < 16760834 * 2 ^ n
  | 0, _, i, hi => by have h := hf i hi; unfold GD runs; omega
  | n + 1, hn, i, hi => by
    have ih := GD_bd f hf n (by omega)
    obtain ⟨d1, d2, d3⟩ := domI_facts n i (by omega) hi
    obtain ⟨p1, p2, p3⟩ := pow_facts n (by omega)
    obtain ⟨_, _, _, _, _, _, e7, e8, _⟩ := lenI_facts n (by omega)
    show _ ≤ lay (lenI n) (iA n) (iB n) (GD f n) i ∧ lay (lenI n) (iA n) (iB n) (GD f n) i < _
    rw [p3]
    generalize (2 : Int) ^ n = P at *
    unfold lay iA iB
    by_cases h : i % (2 * lenI n) < lenI n
    · rw [if_pos h]
      have h1 := ih i hi
      have h2 := ih (i + lenI n) (d1 h)
      omega
    · rw [if_neg h]
      have h1 := ih (i - lenI n) (by omega)
      have h2 := ih i hi
      have hk : istart n + i / (2 * lenI n) < 256 := by
        generalize istart n = s at *
        generalize i / (2 * lenI n) = q at *
        generalize 128 / 2 ^ n = r at *
        omega
      have h3 := mont_prod (is.getD (istart n + i / (2 * lenI n)) 0) (GD f n (i - lenI n) + (2145386752 - GD f n i)) (is_bd _ hk) (by omega)
      omega
theorem pair_all : (List.range 8).all (fun m => (List.range (2 ^ m)).all fun c => zz (2 ^ (m + 1) - 1 - c) * zz (2 ^ m + c) % 8380417 == 8380416) = true := by decide +kernel
theorem pair (m c : Nat) (hm : m < 8) (hc : c < 2 ^ m) : cg (zz (2 ^ (m + 1) - 1 - c) * zz (2 ^ m + c)) (-1) := by
  have h := eq_of_beq (List.all_eq_true.1 (List.all_eq_true.1 pair_all m (List.mem_range.2 hm)) c (List.mem_range.2 hc))
  exact cg.of (by rw [h]; decide)
theorem half (n i : Nat) (hn : n < 8) (hi : i < 256) :
    (i % (2 * lenI n) < lenI n ∧ i + lenI n < 256 ∧ ¬ (i + lenI n) % (2 * lenI n) < lenI n ∧ (i + lenI n) / (2 * lenI n) = i / (2 * lenI n)) ∨
    (¬ i % (2 * lenI n) < lenI n ∧ lenI n ≤ i ∧ (i - lenI n) % (2 * lenI n) < lenI n ∧ (i - lenI n) / (2 * lenI n) = i / (2 * lenI n)) := by
  have h : n = 0 ∨ n = 1 ∨ n = 2 ∨ n = 3 ∨ n = 4 ∨ n = 5 ∨ n = 6 ∨ n = 7 := by omega
  rcases h with h | h | h | h | h | h | h | h <;> subst h <;> simp only [lenI, Nat.reducePow, Nat.reduceMul] <;> omega
theorem idx (n c : Nat) (hn : n < 8) (hc : c < 128 / 2 ^ n) : istart n + c < 256 ∧ 255 - (istart n + c) = 2 ^ (7 - n + 1) - 1 - c ∧ 2 ^ (7 - n) + c < 256 ∧ c < 2 ^ (7 - n) ∧ 8 - n = 7 - n + 1 ∧ 8 - (n + 1) = 7 - n := by
  have h : n = 0 ∨ n = 1 ∨ n = 2 ∨ n = 3 ∨ n = 4 ∨ n = 5 ∨ n = 6 ∨ n = 7 := by omega
  revert hc
  rcases h with h | h | h | h | h | h | h | h <;> subst h <;> simp only [istart, Nat.reducePow, Nat.reduceDiv, Nat.reduceSub, Nat.reduceAdd, and_true] <;> omega
/-- back behind forth: 2^n times the layer from which it came -/
theorem GD_FD (f g : Nat → Int) (h0 : ∀ i, i < 256 → cg (g i) (FD f 8 i)) : ∀ n, n ≤ 8 → ∀ i, i < 256 → cg (GD g n i) ((2 : Int) ^ n * FD f (8 - n) i)
  | 0, _, i, hi => by have h := h0 i hi; simpa [GD, runs] using h
  | n + 1, hn, i, hi => by
    have ih := GD_FD f g h0 n (by omega)
    obtain ⟨_, _, d3⟩ := domI_facts n i (by omega) hi
    obtain ⟨i1, i2, i3, i4, i5, i6⟩ := idx n _ (by omega) d3
    obtain ⟨_, _, _, _, _, _, _, _, e9⟩ := lenI_facts n (by omega)
    rw [i5] at ih
    rw [i6]
    have hF : FD f (7 - n + 1) = lay (lenI n) (dA (7 - n)) (dB (7 - n)) (FD f (7 - n)) := by rw [e9]; rfl
    have e2 : (2 : Int) ^ (n + 1) = 2 ^ n * 2 := Int.pow_succ _ _
    rw [e2]
    show cg (lay (lenI n) (iA n) (iB n) (GD g n) i) _
    rcases half n i (by omega) hi with ⟨c1, c2, c3, c4⟩ | ⟨c1, c2, c3, c4⟩
    · have h1 := ih i hi
      have h2 := ih (i + lenI n) c2
      have v1 : FD f (7 - n + 1) i = FD f (7 - n) i + montD (zs.getD (2 ^ (7 - n) + i / (2 * lenI n)) 0 * FD f (7 - n) (i + lenI n)) := by rw [hF]; unfold lay dA; rw [if_pos c1]
      have v2 : FD f (7 - n + 1) (i + lenI n) = FD f (7 - n) i + (16760834 - montD (zs.getD (2 ^ (7 - n) + i / (2 * lenI n)) 0 * FD f (7 - n) (i + lenI n))) := by rw [hF]; unfold lay dB; rw [if_neg c3, c4, Nat.add_sub_cancel]
      have v3 : lay (lenI n) (iA n) (iB n) (GD g n) i = GD g n i + GD g n (i + lenI n) := by unfold lay iA; rw [if_pos c1]
      rw [v3]
      have h3 := h1.add h2
      rw [v1, v2, ← Int.mul_add] at h3
      refine h3.trans ?_
      generalize montD (zs.getD (2 ^ (7 - n) + i / (2 * lenI n)) 0 * FD f (7 - n) (i + lenI n)) = t
      have q : cg (FD f (7 - n) i + t + (FD f (7 - n) i + (16760834 - t))) (2 * FD f (7 - n) i) := ⟨2, by omega⟩
      refine (q.mul (2 ^ n)).trans ?_
      rw [← Int.mul_assoc]
      exact cg.refl _
    · obtain ⟨j, hj⟩ : ∃ j, j = i - lenI n := ⟨_, rfl⟩
      have hij : i = j + lenI n := by omega
      rw [← hj] at c3 c4
      have h1 := ih i hi
      have h2 := ih j (by omega)
      have v1 : FD f (7 - n + 1) j = FD f (7 - n) j + montD (zs.getD (2 ^ (7 - n) + i / (2 * lenI n)) 0 * FD f (7 - n) i) := by rw [hF]; unfold lay dA; rw [if_pos c3, c4, ← hij]
      have v2 : FD f (7 - n + 1) i = FD f (7 - n) j + (16760834 - montD (zs.getD (2 ^ (7 - n) + i / (2 * lenI n)) 0 * FD f (7 - n) i)) := by rw [hF]; unfold lay dB; rw [if_neg c1, ← hj]
      have v3 : lay (lenI n) (iA n) (iB n) (GD g n) i = montD (is.getD (istart n + i / (2 * lenI n)) 0 * (GD g n j + (2145386752 - GD g n i))) := by unfold lay iB; rw [if_neg c1, ← hj]
      rw [v3]
      have hd : cg (GD g n j + (2145386752 - GD g n i)) (2 ^ n * FD f (7 - n + 1) j - 2 ^ n * FD f (7 - n + 1) i) := by
        obtain ⟨c, hc⟩ := h2.sub h1
        exact ⟨c + 256, by omega⟩
      refine ((montD_root _ _ _ (is_cg _ i1)).trans (hd.mul _)).trans ?_
      rw [i2, v1, v2, ← Int.mul_sub]
      have ht := mont_cg (2 ^ (7 - n) + i / (2 * lenI n)) i3 (cg.refl (FD f (7 - n) i))
      have hp := pair (7 - n) (i / (2 * lenI n)) (by omega) i4
      generalize montD (zs.getD (2 ^ (7 - n) + i / (2 * lenI n)) 0 * FD f (7 - n) i) = t at *
      generalize FD f (7 - n) i = y at *
      generalize zz (2 ^ (7 - n) + i / (2 * lenI n)) = z at *
      generalize zz (2 ^ (7 - n + 1) - 1 - i / (2 * lenI n)) = z' at *
      have q0 : cg (FD f (7 - n) j + t - (FD f (7 - n) j + (16760834 - t))) (2 * (z * y)) := by
        obtain ⟨c, hc⟩ := ht
        exact ⟨2 * c - 2, by omega⟩
      refine ((q0.mul (2 ^ n)).mul (-z')).trans ?_
      have q2 : -z' * (2 ^ n * (2 * (z * y))) = (z' * z) * (-(2 ^ n * (2 * y))) := by
        rw [Int.mul_left_comm 2 z y, Int.mul_left_comm (2 ^ n) z, Int.neg_mul, Int.mul_neg, Int.mul_assoc]
      rw [q2]
      refine (hp.mul2 _).trans ?_
      have q3 : -1 * (-(2 ^ n * (2 * y))) = 2 ^ n * 2 * y := by
        rw [Int.mul_assoc]
        omega
      rw [q3]
      exact cg.refl _
theorem fin_cg {x y : Int} (h : cg x y) : cg (montD (41978 * x)) (16382 * y) := by
  have h1 := montD_root 41978 16382 x (cg.of (by decide))
  exact h1.trans (h.mul _)
/-- Forth and back: 2^32 times. -/
theorem back_is (f g : Nat → Int) (h0 : ∀ i, i < 256 → g i % 8380417 = FD f 8 i % 8380417) : ∀ i, i < 256 → f i % 8380417 * (4294967296 % 8380417) % 8380417 = ID g i % 8380417 := by
  intro i hi
  have h1 := GD_FD f g (fun i hi => cg.of (h0 i hi)) 8 (by omega) i hi
  have h2 : cg (GD g 8 i) (256 * f i) := h1
  have h3 := (fin_cg h2).mod
  show _ = montD (41978 * GD g 8 i) % 8380417
  rw [h3]
  generalize f i = x
  omega
theorem ID_bd (g : Nat → Int) (hg : ∀ i, i < 256 → 0 ≤ g i ∧ g i < 16760834) : ∀ i, i < 256 → 0 ≤ ID g i ∧ ID g i < 16760834 := by
  intro i hi
  have h1 := GD_bd g hg 8 (by omega) i hi
  exact montD_bd _ (by omega)
end Go.Proofs.YtnehgjpphojhlaaDoor
