/- The transform gives a polynomial's values at the roots; the value of a product (Dilithium): plain laws. -/
import Derived.Test.YtnehgjpphojhlaaDoorDNttP
namespace Go.Proofs.YtnehgjpphojhlaaDoor
open Go Go.Proofs Go.RowKit Go.Kd
def vsum (g : Nat → Int) : Nat → Int
  | 0 => 0
  | n + 1 => vsum g n + g n
theorem vsum_even (g : Nat → Int) : ∀ m, vsum g (2 * m) = vsum (fun k => g (2 * k) + g (2 * k + 1)) m
  | 0 => rfl
  | m + 1 => by
    have h := vsum_even g m
    show vsum g (2 * m + 1 + 1) = vsum _ m + (g (2 * m) + g (2 * m + 1))
    rw [← h]
    show vsum g (2 * m) + g (2 * m) + g (2 * m + 1) = _
    omega
theorem vsum_cg {g h : Nat → Int} : ∀ m, (∀ k, k < m → cg (g k) (h k)) → cg (vsum g m) (vsum h m)
  | 0, _ => cg.refl _
  | m + 1, e => (vsum_cg m fun k hk => e k (by omega)).add (e m (by omega))
theorem vsum_add (g h : Nat → Int) : ∀ m, vsum (fun k => g k + h k) m = vsum g m + vsum h m
  | 0 => rfl
  | m + 1 => by
    show vsum (fun k => g k + h k) m + (g m + h m) = vsum g m + g m + (vsum h m + h m)
    rw [vsum_add g h m]
    omega
theorem vsum_mul (s : Int) (g : Nat → Int) : ∀ m, vsum (fun k => s * g k) m = s * vsum g m
  | 0 => (Int.mul_zero s).symm
  | m + 1 => by
    show vsum _ m + s * g m = s * (vsum g m + g m)
    rw [vsum_mul s g m, Int.mul_add]
theorem cg.pow {a b : Int} (h : cg a b) : ∀ k : Nat, cg (a ^ k) (b ^ k)
  | 0 => by rw [Int.pow_zero, Int.pow_zero]; exact cg.refl _
  | k + 1 => by
    rw [Int.pow_succ, Int.pow_succ]
    exact ((h.pow k).mul2 a).trans (h.mul (b ^ k))
/-- the number of block d behind n layers -/
def wD : Nat → Nat → Int
  | 0, _ => -1
  | n + 1, d => if d % 2 = 0 then zz (2 ^ n + d / 2) else -zz (2 ^ n + d / 2)
theorem sq_all : (List.range 8).all (fun n => (List.range (2 ^ n)).all fun c => (zz (2 ^ n + c) * zz (2 ^ n + c) - wD n c) % 8380417 == 0) = true := by decide +kernel
theorem sq (n d : Nat) (hn : n < 8) (hd : d < 2 ^ (n + 1)) : cg (wD (n + 1) d * wD (n + 1) d) (wD n (d / 2)) := by
  have h := eq_of_beq (List.all_eq_true.1 (List.all_eq_true.1 sq_all n (List.mem_range.2 hn)) (d / 2) (List.mem_range.2 (by rw [Nat.pow_succ] at hd; omega)))
  have e : wD (n + 1) d * wD (n + 1) d = zz (2 ^ n + d / 2) * zz (2 ^ n + d / 2) := by
    show (if _ then _ else _) * (if _ then _ else _) = _
    split
    · rfl
    · rw [Int.neg_mul_neg]
  rw [e]
  generalize zz (2 ^ n + d / 2) * zz (2 ^ n + d / 2) = y at *
  exact cg.of (by omega)
def bl (n : Nat) : Nat := 256 / 2 ^ n
theorem bl_facts : ∀ n, n < 8 → bl n = 2 * lenD n ∧ bl (n + 1) = lenD n ∧ 2 ^ n + 2 ^ n ≤ 256 := by decide
/-- a layer's number: the sum over the numbers from which it came -/
theorem FD_val (f : Nat → Int) : ∀ n, n ≤ 8 → ∀ d t, d < 2 ^ n → t < bl n → cg (FD f n (bl n * d + t)) (vsum (fun k => f (t + k * bl n) * wD n d ^ k) (2 ^ n))
  | 0, _, d, t, hd, ht => by
    obtain rfl : d = 0 := by omega
    show cg (f (bl 0 * 0 + t)) (0 + f (t + 0 * bl 0) * wD 0 0 ^ 0)
    rw [Nat.mul_zero, Nat.zero_add, Nat.zero_mul, Nat.add_zero, Int.pow_zero, Int.mul_one, Int.zero_add]
    exact cg.refl _
  | n + 1, hn, d, t, hd, ht => by
    have ih := FD_val f n (by omega)
    obtain ⟨b1, b2, b3⟩ := bl_facts n (by omega)
    rw [b1] at ih
    rw [b2] at ht ⊢
    obtain ⟨c, ec⟩ : ∃ c, c = d / 2 := ⟨_, rfl⟩
    have hc : c < 2 ^ n := by rw [Nat.pow_succ] at hd; omega
    have hs := sq n d (by omega) hd
    rw [← ec] at hs
    have h1 := ih c t hc (by omega)
    have h2 := ih c (t + lenD n) hc (by omega)
    have hk : 2 ^ n + c < 256 := by omega
    have hm := mont_cg (2 ^ n + c) hk h2
    rw [← Nat.add_assoc] at hm
    have hL : FD f (n + 1) = lay (lenD n) (dA n) (dB n) (FD f n) := rfl
    -- the sum, by pairs
    have hsum : cg (vsum (fun k => f (t + k * lenD n) * wD (n + 1) d ^ k) (2 ^ (n + 1))) (vsum (fun k => f (t + k * (2 * lenD n)) * wD n c ^ k) (2 ^ n) + wD (n + 1) d * vsum (fun k => f (t + lenD n + k * (2 * lenD n)) * wD n c ^ k) (2 ^ n)) := by
      rw [Nat.pow_succ, Nat.mul_comm (2 ^ n) 2, vsum_even, ← vsum_mul, ← vsum_add]
      refine vsum_cg _ fun k _ => ?_
      have e1 : wD (n + 1) d ^ (2 * k) = (wD (n + 1) d * wD (n + 1) d) ^ k := by rw [Int.pow_mul, Int.pow_succ, Int.pow_succ, Int.pow_zero, Int.one_mul]
      have p1 := hs.pow k
      rw [← e1] at p1
      have q1 : t + 2 * k * lenD n = t + k * (2 * lenD n) := by rw [Nat.mul_comm 2 k, Nat.mul_assoc]
      have q2 : t + (2 * k + 1) * lenD n = t + lenD n + k * (2 * lenD n) := by rw [Nat.add_mul, Nat.one_mul, Nat.mul_comm 2 k, Nat.mul_assoc]; omega
      rw [q1, q2]
      refine (p1.mul _).add ?_
      have e2 : wD (n + 1) d ^ (2 * k + 1) = wD (n + 1) d * wD (n + 1) d ^ (2 * k) := by rw [Int.pow_succ, Int.mul_comm]
      rw [e2, Int.mul_left_comm]
      exact (p1.mul _).mul _
    refine cg.trans ?_ hsum.symm
    rw [hL]
    by_cases hd2 : d % 2 = 0
    · have ei : lenD n * d + t = 2 * lenD n * c + t := by
        have : d = 2 * c := by omega
        rw [this, ← Nat.mul_assoc, Nat.mul_comm (lenD n) 2]
      have ew : wD (n + 1) d = zz (2 ^ n + c) := by show (if _ then _ else _) = _; rw [if_pos hd2, ec]
      rw [ei, lay_lo _ _ _ _ ht, ew]
      exact h1.add hm
    · have ei : lenD n * d + t = 2 * lenD n * c + t + lenD n := by
        have : d = 2 * c + 1 := by omega
        rw [this, Nat.mul_add, Nat.mul_one, ← Nat.mul_assoc, Nat.mul_comm (lenD n) 2]
        omega
      have ew : wD (n + 1) d = -zz (2 ^ n + c) := by show (if _ then _ else _) = _; rw [if_neg hd2, ec]
      rw [ei, lay_hi _ _ _ _ ht, ew, Int.neg_mul]
      obtain ⟨x, hx⟩ := h1
      obtain ⟨y, hy⟩ := hm
      show cg (FD f n (2 * lenD n * c + t) + (16760834 - montD (zs.getD (2 ^ n + c) 0 * FD f n (2 * lenD n * c + t + lenD n)))) _
      exact ⟨x - y + 2, by omega⟩
/-- the value at a number -/
def val (f : Nat → Int) (p : Int) : Int := vsum (fun k => f k * p ^ k) 256
theorem FD_is_val (f : Nat → Int) (i : Nat) (hi : i < 256) : cg (FD f 8 i) (val f (wD 8 i)) := by
  have h := FD_val f 8 (by omega) i 0 hi (by decide)
  have e : bl 8 = 1 := by decide
  rw [e, Nat.one_mul, Nat.add_zero] at h
  have e2 : (fun k => f (0 + k * 1) * wD 8 i ^ k) = fun k => f k * wD 8 i ^ k := by funext k; rw [Nat.zero_add, Nat.mul_one]
  rw [e2] at h
  exact h
theorem root : ∀ n, n ≤ 8 → ∀ d, d < 2 ^ n → cg (wD n d ^ (2 ^ n)) (-1)
  | 0, _, d, _ => cg.refl _
  | n + 1, hn, d, hd => by
    have ih := root n (by omega) (d / 2) (by rw [Nat.pow_succ] at hd; omega)
    have e : wD (n + 1) d ^ (2 ^ (n + 1)) = (wD (n + 1) d * wD (n + 1) d) ^ (2 ^ n) := by
      rw [Nat.pow_succ, Nat.mul_comm, Int.pow_mul]
      congr 1
      rw [Int.pow_succ, Int.pow_succ, Int.pow_zero, Int.one_mul]
    rw [e]
    exact ((sq n d (by omega) hd).pow _).trans ih

/-! ### The product -/
def upd (o : Nat → Int) (at' : Nat) (v : Int) : Nat → Int := fun t => if t = at' then (o t + v) % 8380417 else o t
/-- where a pair's product goes, and with what sign -/
def pAt (i j : Nat) : Nat := if i + j > 255 then i + j - 256 else i + j
def pV (a b : Nat → Int) (i j : Nat) : Int := if i + j > 255 then -(a i * b j % 8380417) else a i * b j % 8380417
def pJ (a b : Nat → Int) (i : Nat) (o : Nat → Int) : Nat → Nat → Int
  | 0 => o
  | j + 1 => upd (pJ a b i o j) (pAt i j) (pV a b i j)
def pI (a b : Nat → Int) : Nat → Nat → Int
  | 0 => fun _ => 0
  | i + 1 => pJ a b i (pI a b i) 256
theorem val_upd (o : Nat → Int) (at' : Nat) (v p : Int) (h : at' < 256) : cg (val (upd o at' v) p) (val o p + v * p ^ at') := by
  have key : ∀ m, cg (vsum (fun k => upd o at' v k * p ^ k) m) (vsum (fun k => o k * p ^ k) m + if at' < m then v * p ^ at' else 0) := by
    intro m
    induction m with
    | zero => exact ⟨0, by simp [vsum]⟩
    | succ m ih =>
      have e : cg (upd o at' v m * p ^ m) (o m * p ^ m + if m = at' then v * p ^ at' else 0) := by
        unfold upd
        by_cases h : m = at'
        · rw [if_pos h, if_pos h, ← h, ← Int.add_mul]
          exact (cg.of (Int.emod_emod_of_dvd _ (Int.dvd_refl _))).mul2 _
        · rw [if_neg h, if_neg h, Int.add_zero]
          exact cg.refl _
      refine (ih.add e).trans ?_
      show cg _ (vsum (fun k => o k * p ^ k) m + o m * p ^ m + _)
      refine ⟨0, ?_⟩
      by_cases h : m = at'
      · rw [if_pos h, if_neg (by omega), if_pos (by omega)]; omega
      · rw [if_neg h]
        by_cases h2 : at' < m
        · rw [if_pos h2, if_pos (by omega)]; omega
        · rw [if_neg h2, if_neg (by omega)]; omega
  have h2 := key 256
  rw [if_pos h] at h2
  exact h2
theorem pair_val (a b : Nat → Int) (i j : Nat) (hi : i < 256) (hj : j < 256) (p : Int) (hp : cg (p ^ 256) (-1)) : pAt i j < 256 ∧ cg (pV a b i j * p ^ pAt i j) (a i * p ^ i * (b j * p ^ j)) := by
  have e : a i * p ^ i * (b j * p ^ j) = a i * b j * p ^ (i + j) := by
    rw [Int.pow_add, Int.mul_assoc, Int.mul_left_comm (p ^ i), ← Int.mul_assoc, ← Int.mul_assoc]
  rw [e]
  have hm : cg (a i * b j % 8380417) (a i * b j) := cg.of (Int.emod_emod_of_dvd _ (Int.dvd_refl _))
  unfold pAt pV
  by_cases h : i + j > 255
  · rw [if_pos h, if_pos h]
    refine ⟨by omega, ?_⟩
    obtain ⟨d, hd⟩ : ∃ d, i + j = 256 + d := ⟨i + j - 256, by omega⟩
    have hd2 : i + j - 256 = d := by omega
    rw [hd2]
    have e2 : p ^ (i + j) = p ^ 256 * p ^ d := by rw [hd]; exact Int.pow_add p 256 d
    rw [e2]
    have h1 := (hp.mul2 (p ^ d)).mul (a i * b j)
    refine cg.trans ?_ h1.symm
    have h2 := hm.mul2 (p ^ d)
    obtain ⟨c, hc⟩ := h2
    refine ⟨-c, ?_⟩
    rw [Int.neg_mul, hc, Int.neg_mul, Int.one_mul, Int.mul_neg]
    omega
  · rw [if_neg h, if_neg h]
    exact ⟨by omega, hm.mul2 _⟩
theorem val_J (a b : Nat → Int) (i : Nat) (hi : i < 256) (p : Int) (hp : cg (p ^ 256) (-1)) (o : Nat → Int) : ∀ j, j ≤ 256 → cg (val (pJ a b i o j) p) (val o p + a i * p ^ i * vsum (fun k => b k * p ^ k) j)
  | 0, _ => ⟨0, by simp [pJ, vsum]⟩
  | j + 1, hj => by
    obtain ⟨h1, h2⟩ := pair_val a b i j hi (by omega) p hp
    refine (val_upd _ _ _ _ h1).trans ?_
    refine ((val_J a b i hi p hp o j (by omega)).add h2).trans ?_
    show cg _ (val o p + a i * p ^ i * (vsum (fun k => b k * p ^ k) j + b j * p ^ j))
    rw [Int.mul_add (a i * p ^ i), Int.add_assoc]
    exact cg.refl _
theorem val_I (a b : Nat → Int) (p : Int) (hp : cg (p ^ 256) (-1)) : ∀ i, i ≤ 256 → cg (val (pI a b i) p) (vsum (fun k => a k * p ^ k) i * val b p)
  | 0, _ => by
    have e : ∀ m, vsum (fun k => (0 : Int) * p ^ k) m = 0 := by
      intro m
      induction m with
      | zero => rfl
      | succ m ih => show vsum _ m + 0 * p ^ m = 0; rw [ih, Int.zero_mul]; rfl
    exact ⟨0, by show vsum (fun k => (0 : Int) * p ^ k) 256 = 0 * _ + _; rw [e 256]; simp⟩
  | i + 1, hi => by
    refine (val_J a b i (by omega) p hp _ 256 (Nat.le_refl _)).trans ?_
    refine ((val_I a b p hp i (by omega)).add (cg.refl _)).trans ?_
    show cg (vsum (fun k => a k * p ^ k) i * val b p + a i * p ^ i * val b p) ((vsum (fun k => a k * p ^ k) i + a i * p ^ i) * val b p)
    rw [Int.add_mul]
    exact cg.refl _
/-- the product, transformed: place by place -/
theorem FD_prod (a b : Nat → Int) (i : Nat) (hi : i < 256) : cg (FD (pI a b 256) 8 i) (FD a 8 i * FD b 8 i) := by
  have h1 := val_I a b (wD 8 i) (root 8 (by omega) i hi) 256 (Nat.le_refl _)
  refine (FD_is_val _ i hi).trans (h1.trans ?_)
  exact (((FD_is_val a i hi).symm.mul2 _).trans ((FD_is_val b i hi).symm.mul _))
end Go.Proofs.YtnehgjpphojhlaaDoor
