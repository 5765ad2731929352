/- Kyber's transform gives a polynomial modulo the x^2 - w; the product of two, so seen: plain laws. -/
import Derived.Test.YtgojphoejmbliaaDoorKInvM
namespace Go.Proofs.YtgojphoejmbliaaDoor
open Go Go.Proofs Go.RowKit Go.Kd
def vsum (g : Nat → Int) : Nat → Int
  | 0 => 0
  | n + 1 => vsum g n + g n
theorem vsum_even (g : Nat → Int) : ∀ m, vsum g (2 * m) = vsum (fun k => g (2 * k) + g (2 * k + 1)) m
  | 0 => rfl
  | m + 1 => by
    have h := vsum_even g m
    show vsum g (2 * m + 1 + 1) = vsum _ m + (g (2 * m) + g (2 * m + 1))
    rw [← h]
    show vsum g (2 * m) + g (2 * m) + g (2 * m + 1) = _
    omega
theorem vsum_cg {g h : Nat → Int} : ∀ m, (∀ k, k < m → cg (g k) (h k)) → cg (vsum g m) (vsum h m)
  | 0, _ => cg.refl _
  | m + 1, e => (vsum_cg m fun k hk => e k (by omega)).add (e m (by omega))
theorem vsum_eq {g h : Nat → Int} : ∀ m, (∀ k, k < m → g k = h k) → vsum g m = vsum h m
  | 0, _ => rfl
  | m + 1, e => by
    show vsum g m + g m = vsum h m + h m
    rw [vsum_eq m fun k hk => e k (by omega), e m (by omega)]
theorem vsum_add (g h : Nat → Int) : ∀ m, vsum (fun k => g k + h k) m = vsum g m + vsum h m
  | 0 => rfl
  | m + 1 => by
    show vsum (fun k => g k + h k) m + (g m + h m) = vsum g m + g m + (vsum h m + h m)
    rw [vsum_add g h m]
    omega
theorem vsum_mul (s : Int) (g : Nat → Int) : ∀ m, vsum (fun k => s * g k) m = s * vsum g m
  | 0 => (Int.mul_zero s).symm
  | m + 1 => by
    show vsum _ m + s * g m = s * (vsum g m + g m)
    rw [vsum_mul s g m, Int.mul_add]
theorem cg.pow {a b : Int} (h : cg a b) : ∀ k : Nat, cg (a ^ k) (b ^ k)
  | 0 => by rw [Int.pow_zero, Int.pow_zero]; exact cg.refl _
  | k + 1 => by
    rw [Int.pow_succ, Int.pow_succ]
    exact ((h.pow k).mul2 a).trans (h.mul (b ^ k))
/-- the number of block d behind n layers -/
def wK : Nat → Nat → Int
  | 0, _ => -1
  | n + 1, d => if d % 2 = 0 then zz (2 ^ n + d / 2) else -zz (2 ^ n + d / 2)
theorem sq_all : (List.range 7).all (fun n => (List.range (2 ^ n)).all fun c => (zz (2 ^ n + c) * zz (2 ^ n + c) - wK n c) % 3329 == 0) = true := by decide +kernel
theorem sq (n d : Nat) (hn : n < 7) (hd : d < 2 ^ (n + 1)) : cg (wK (n + 1) d * wK (n + 1) d) (wK n (d / 2)) := by
  have h := eq_of_beq (List.all_eq_true.1 (List.all_eq_true.1 sq_all n (List.mem_range.2 hn)) (d / 2) (List.mem_range.2 (by rw [Nat.pow_succ] at hd; omega)))
  have e : wK (n + 1) d * wK (n + 1) d = zz (2 ^ n + d / 2) * zz (2 ^ n + d / 2) := by
    show (if _ then _ else _) * (if _ then _ else _) = _
    split
    · rfl
    · rw [Int.neg_mul_neg]
  rw [e]
  generalize zz (2 ^ n + d / 2) * zz (2 ^ n + d / 2) = y at *
  exact cg.of (by omega)
def bl (n : Nat) : Nat := 256 / 2 ^ n
theorem bl_facts : ∀ n, n < 7 → bl n = 2 * lenK n ∧ bl (n + 1) = lenK n ∧ 2 ^ n + 2 ^ n ≤ 128 := by decide
/-- a layer's number: the sum over the numbers from which it came -/
theorem FK_val (f : Nat → Int) : ∀ n, n ≤ 7 → ∀ d t, d < 2 ^ n → t < bl n → cg (FK f n (bl n * d + t)) (vsum (fun k => f (t + k * bl n) * wK n d ^ k) (2 ^ n))
  | 0, _, d, t, hd, ht => by
    obtain rfl : d = 0 := by omega
    show cg (f (bl 0 * 0 + t)) (0 + f (t + 0 * bl 0) * wK 0 0 ^ 0)
    rw [Nat.mul_zero, Nat.zero_add, Nat.zero_mul, Nat.add_zero, Int.pow_zero, Int.mul_one, Int.zero_add]
    exact cg.refl _
  | n + 1, hn, d, t, hd, ht => by
    have ih := FK_val f n (by omega)
    obtain ⟨b1, b2, b3⟩ := bl_facts n (by omega)
    rw [b1] at ih
    rw [b2] at ht ⊢
    obtain ⟨c, ec⟩ : ∃ c, c = d / 2 := ⟨_, rfl⟩
    have hc : c < 2 ^ n := by rw [Nat.pow_succ] at hd; omega
    have hs := sq n d (by omega) hd
    rw [← ec] at hs
    have h1 := ih c t hc (by omega)
    have h2 := ih c (t + lenK n) hc (by omega)
    have hk : 2 ^ n + c < 128 := by omega
    have hm := mont_cg (2 ^ n + c) hk h2
    rw [← Nat.add_assoc] at hm
    have hL : FK f (n + 1) = lay (lenK n) (kA n) (kB n) (FK f n) := rfl
    -- the sum, by pairs
    have hsum : cg (vsum (fun k => f (t + k * lenK n) * wK (n + 1) d ^ k) (2 ^ (n + 1))) (vsum (fun k => f (t + k * (2 * lenK n)) * wK n c ^ k) (2 ^ n) + wK (n + 1) d * vsum (fun k => f (t + lenK n + k * (2 * lenK n)) * wK n c ^ k) (2 ^ n)) := by
      rw [Nat.pow_succ, Nat.mul_comm (2 ^ n) 2, vsum_even, ← vsum_mul, ← vsum_add]
      refine vsum_cg _ fun k _ => ?_
      have e1 : wK (n + 1) d ^ (2 * k) = (wK (n + 1) d * wK (n + 1) d) ^ k := by rw [Int.pow_mul, Int.pow_succ, Int.pow_succ, Int.pow_zero, Int.one_mul]
      have p1 := hs.pow k
      rw [← e1] at p1
      have q1 : t + 2 * k * lenK n = t + k * (2 * lenK n) := by rw [Nat.mul_comm 2 k, Nat.mul_assoc]
      have q2 : t + (2 * k + 1) * lenK n = t + lenK n + k * (2 * lenK n) := by rw [Nat.add_mul, Nat.one_mul, Nat.mul_comm 2 k, Nat.mul_assoc]; omega
      rw [q1, q2]
      refine (p1.mul _).add ?_
      have e2 : wK (n + 1) d ^ (2 * k + 1) = wK (n + 1) d * wK (n + 1) d ^ (2 * k) := by rw [Int.pow_succ, Int.mul_comm]
      rw [e2, Int.mul_left_comm]
      exact (p1.mul _).mul _
    refine cg.trans ?_ hsum.symm
    rw [hL]
    by_cases hd2 : d % 2 = 0
    · have ei : lenK n * d + t = 2 * lenK n * c + t := by
        have : d = 2 * c := by omega
        rw [this, ← Nat.mul_assoc, Nat.mul_comm (lenK n) 2]
      have ew : wK (n + 1) d = zz (2 ^ n + c) := by show (if _ then _ else _) = _; rw [if_pos hd2, ec]
      rw [ei, lay_lo _ _ _ _ ht, ew]
      exact h1.add hm
    · have ei : lenK n * d + t = 2 * lenK n * c + t + lenK n := by
        have : d = 2 * c + 1 := by omega
        rw [this, Nat.mul_add, Nat.mul_one, ← Nat.mul_assoc, Nat.mul_comm (lenK n) 2]
        omega
      have ew : wK (n + 1) d = -zz (2 ^ n + c) := by show (if _ then _ else _) = _; rw [if_neg hd2, ec]
      rw [ei, lay_hi _ _ _ _ ht, ew, Int.neg_mul]
      obtain ⟨x, hx⟩ := h1
      obtain ⟨y, hy⟩ := hm
      show cg (FK f n (2 * lenK n * c + t) - mont (zs.getD (2 ^ n + c) 0 * FK f n (2 * lenK n * c + t + lenK n))) _
      exact ⟨x - y, by omega⟩
theorem root : ∀ n, n ≤ 7 → ∀ d, d < 2 ^ n → cg (wK n d ^ (2 ^ n)) (-1)
  | 0, _, d, _ => cg.refl _
  | n + 1, hn, d, hd => by
    have ih := root n (by omega) (d / 2) (by rw [Nat.pow_succ] at hd; omega)
    have e : wK (n + 1) d ^ (2 ^ (n + 1)) = (wK (n + 1) d * wK (n + 1) d) ^ (2 ^ n) := by
      rw [Nat.pow_succ, Nat.mul_comm, Int.pow_mul]
      congr 1
      rw [Int.pow_succ, Int.pow_succ, Int.pow_zero, Int.one_mul]
    rw [e]
    exact ((sq n d (by omega) hd).pow _).trans ih

/-! ### The two halves of a power of x, modulo x^2 - p -/
def P0 (p : Int) (k : Nat) : Int := if k % 2 = 0 then p ^ (k / 2) else 0
def P1 (p : Int) (k : Nat) : Int := if k % 2 = 1 then p ^ (k / 2) else 0
def S (e f : Nat → Int) : Int := vsum (fun k => f k * e k) 256
theorem P_add (p : Int) (i k : Nat) : P0 p (i + k) = P0 p i * P0 p k + p * P1 p i * P1 p k ∧ P1 p (i + k) = P1 p i * P0 p k + P0 p i * P1 p k := by
  unfold P0 P1
  have hi : i % 2 = 0 ∨ i % 2 = 1 := by omega
  have hk : k % 2 = 0 ∨ k % 2 = 1 := by omega
  rcases hi with hi | hi <;> rcases hk with hk | hk
  · have h1 : (i + k) % 2 = 0 := by omega
    have h2 : (i + k) / 2 = i / 2 + k / 2 := by omega
    simp only [hi, hk, h1, h2, Int.pow_add]
    simp
  · have h1 : (i + k) % 2 = 1 := by omega
    have h2 : (i + k) / 2 = i / 2 + k / 2 := by omega
    simp only [hi, hk, h1, h2, Int.pow_add]
    simp
  · have h1 : (i + k) % 2 = 1 := by omega
    have h2 : (i + k) / 2 = i / 2 + k / 2 := by omega
    simp only [hi, hk, h1, h2, Int.pow_add]
    simp
  · have h1 : (i + k) % 2 = 0 := by omega
    have h2 : (i + k) / 2 = i / 2 + k / 2 + 1 := by omega
    simp only [hi, hk, h1, h2, Int.pow_add]
    have e : p ^ 1 = p := by rw [Int.pow_succ, Int.pow_zero, Int.one_mul]
    simp [Int.mul_comm, Int.mul_assoc, e]
theorem P_256 (p : Int) (hp : cg (p ^ 128) (-1)) (d : Nat) : cg (P0 p (256 + d)) (-(P0 p d)) ∧ cg (P1 p (256 + d)) (-(P1 p d)) := by
  have h1 : (256 + d) % 2 = d % 2 := by omega
  have h2 : (256 + d) / 2 = 128 + d / 2 := by omega
  have h3 := hp.mul2 (p ^ (d / 2))
  rw [← Int.pow_add, Int.neg_mul, Int.one_mul] at h3
  unfold P0 P1
  rw [h1, h2]
  constructor <;> split
  · exact h3
  · exact ⟨0, by omega⟩
  · exact h3
  · exact ⟨0, by omega⟩
theorem S0 (f : Nat → Int) (p : Int) : S (P0 p) f = vsum (fun k => f (0 + k * 2) * p ^ k) 128 := by
  unfold S
  rw [show (256 : Nat) = 2 * 128 from rfl, vsum_even]
  refine vsum_eq _ fun k _ => ?_
  unfold P0
  have h1 : 2 * k % 2 = 0 := by omega
  have h2 : (2 * k + 1) % 2 ≠ 0 := by omega
  have h3 : 2 * k / 2 = k := by omega
  have h4 : 0 + k * 2 = 2 * k := by omega
  rw [if_pos h1, if_neg h2, h3, h4, Int.mul_zero, Int.add_zero]
theorem S1 (f : Nat → Int) (p : Int) : S (P1 p) f = vsum (fun k => f (1 + k * 2) * p ^ k) 128 := by
  unfold S
  rw [show (256 : Nat) = 2 * 128 from rfl, vsum_even]
  refine vsum_eq _ fun k _ => ?_
  unfold P1
  have h1 : 2 * k % 2 ≠ 1 := by omega
  have h2 : (2 * k + 1) % 2 = 1 := by omega
  have h3 : (2 * k + 1) / 2 = k := by omega
  have h4 : 1 + k * 2 = 2 * k + 1 := by omega
  rw [if_neg h1, if_pos h2, h3, h4, Int.mul_zero, Int.zero_add]
theorem FK_S (f : Nat → Int) (d : Nat) (hd : d < 128) : cg (FK f 7 (2 * d)) (S (P0 (wK 7 d)) f) ∧ cg (FK f 7 (2 * d + 1)) (S (P1 (wK 7 d)) f) := by
  have h0 := FK_val f 7 (by omega) d 0 hd (by decide)
  have h1 := FK_val f 7 (by omega) d 1 hd (by decide)
  have e : bl 7 = 2 := by decide
  rw [e] at h0 h1
  rw [S0, S1]
  exact ⟨h0, h1⟩

/-! ### The product -/
def upd (o : Nat → Int) (at' : Nat) (v : Int) : Nat → Int := fun t => if t = at' then (o t + v) % 3329 else o t
/-- where a pair's product goes, and with what sign -/
def pAt (i j : Nat) : Nat := if i + j > 255 then i + j - 256 else i + j
def pV (a b : Nat → Int) (i j : Nat) : Int := if i + j > 255 then -(a i * b j) else a i * b j
def pJ (a b : Nat → Int) (i : Nat) (o : Nat → Int) : Nat → Nat → Int
  | 0 => o
  | j + 1 => upd (pJ a b i o j) (pAt i j) (pV a b i j)
def pI (a b : Nat → Int) : Nat → Nat → Int
  | 0 => fun _ => 0
  | i + 1 => pJ a b i (pI a b i) 256
theorem S_upd (e o : Nat → Int) (at' : Nat) (v : Int) (h : at' < 256) : cg (S e (upd o at' v)) (S e o + v * e at') := by
  have key : ∀ m, cg (vsum (fun k => upd o at' v k * e k) m) (vsum (fun k => o k * e k) m + if at' < m then v * e at' else 0) := by
    intro m
    induction m with
    | zero => exact ⟨0, by simp [vsum]⟩
    | succ m ih =>
      have e : cg (upd o at' v m * e m) (o m * e m + if m = at' then v * e at' else 0) := by
        unfold upd
        by_cases h : m = at'
        · rw [if_pos h, if_pos h, ← h, ← Int.add_mul]
          exact (cg.of (Int.emod_emod_of_dvd _ (Int.dvd_refl _))).mul2 _
        · rw [if_neg h, if_neg h, Int.add_zero]
          exact cg.refl _
      refine (ih.add e).trans ?_
      show cg _ (vsum (fun k => o k * _) m + o m * _ + _)
      refine ⟨0, ?_⟩
      by_cases h : m = at'
      · rw [if_pos h, if_neg (by omega), if_pos (by omega)]; omega
      · rw [if_neg h]
        by_cases h2 : at' < m
        · rw [if_pos h2, if_pos (by omega)]; omega
        · rw [if_neg h2, if_neg (by omega)]; omega
  have h2 := key 256
  rw [if_pos h] at h2
  exact h2
theorem pair_S (a b e : Nat → Int) (i j : Nat) (hi : i < 256) (hj : j < 256) (he : ∀ d, cg (e (256 + d)) (-(e d))) : pAt i j < 256 ∧ cg (pV a b i j * e (pAt i j)) (a i * b j * e (i + j)) := by
  unfold pAt pV
  by_cases h : i + j > 255
  · rw [if_pos h, if_pos h]
    refine ⟨by omega, ?_⟩
    obtain ⟨d, hd⟩ : ∃ d, i + j = 256 + d := ⟨i + j - 256, by omega⟩
    have hd2 : i + j - 256 = d := by omega
    rw [hd2, hd]
    have h1 := (he d).mul (a i * b j)
    refine cg.trans ?_ h1.symm
    rw [Int.mul_neg, Int.neg_mul]
    exact cg.refl _
  · rw [if_neg h, if_neg h]
    exact ⟨by omega, cg.refl _⟩
theorem S_J (a b e : Nat → Int) (i : Nat) (hi : i < 256) (he : ∀ d, cg (e (256 + d)) (-(e d))) (o : Nat → Int) : ∀ j, j ≤ 256 → cg (S e (pJ a b i o j)) (S e o + a i * vsum (fun k => b k * e (i + k)) j)
  | 0, _ => ⟨0, by simp [pJ, vsum]⟩
  | j + 1, hj => by
    obtain ⟨h1, h2⟩ := pair_S a b e i j hi (by omega) he
    refine (S_upd _ _ _ _ h1).trans ?_
    refine ((S_J a b e i hi he o j (by omega)).add h2).trans ?_
    show cg _ (S e o + a i * (vsum (fun k => b k * e (i + k)) j + b j * e (i + j)))
    rw [Int.mul_add (a i), Int.add_assoc, Int.mul_assoc (a i) (b j)]
    exact cg.refl _
theorem S_I (a b e A B e1 e2 : Nat → Int) (he : ∀ d, cg (e (256 + d)) (-(e d))) (hs : ∀ i k, e (i + k) = A i * e1 k + B i * e2 k) :
    ∀ i, i ≤ 256 → cg (S e (pI a b i)) (vsum (fun k => a k * A k) i * S e1 b + vsum (fun k => a k * B k) i * S e2 b)
  | 0, _ => by
    have z : ∀ m, vsum (fun k => (0 : Int) * e k) m = 0 := by
      intro m
      induction m with
      | zero => rfl
      | succ m ih => show vsum _ m + 0 * e m = 0; rw [ih, Int.zero_mul]; rfl
    exact ⟨0, by show vsum (fun k => (0 : Int) * e k) 256 = 0 * _ + 0 * _ + _; rw [z 256]; simp⟩
  | i + 1, hi => by
    refine (S_J a b e i (by omega) he _ 256 (Nat.le_refl _)).trans ?_
    refine ((S_I a b e A B e1 e2 he hs i (by omega)).add (cg.refl _)).trans ?_
    have e3 : vsum (fun k => b k * e (i + k)) 256 = A i * S e1 b + B i * S e2 b := by
      unfold S
      rw [← vsum_mul, ← vsum_mul, ← vsum_add]
      refine vsum_eq _ fun k _ => ?_
      rw [hs i k, Int.mul_add, Int.mul_left_comm (b k), Int.mul_left_comm (b k)]
    rw [e3]
    show cg _ ((vsum (fun k => a k * A k) i + a i * A i) * S e1 b + (vsum (fun k => a k * B k) i + a i * B i) * S e2 b)
    generalize S e1 b = s1
    generalize S e2 b = s2
    refine ⟨0, ?_⟩
    rw [Int.add_mul, Int.add_mul, Int.mul_add (a i), Int.mul_assoc (a i) (A i), Int.mul_assoc (a i) (B i)]
    omega
/-- the product, transformed: two numbers at a time -/
theorem FK_prod (a b : Nat → Int) (d : Nat) (hd : d < 128) :
    cg (FK (pI a b 256) 7 (2 * d)) (FK a 7 (2 * d) * FK b 7 (2 * d) + wK 7 d * (FK a 7 (2 * d + 1) * FK b 7 (2 * d + 1))) ∧
    cg (FK (pI a b 256) 7 (2 * d + 1)) (FK a 7 (2 * d) * FK b 7 (2 * d + 1) + FK a 7 (2 * d + 1) * FK b 7 (2 * d)) := by
  have hr := root 7 (by omega) d hd
  obtain ⟨q0, q1⟩ := FK_S (pI a b 256) d hd
  obtain ⟨a0, a1⟩ := FK_S a d hd
  obtain ⟨b0, b1⟩ := FK_S b d hd
  generalize wK 7 d = p at *
  have h0 := S_I a b (P0 p) (P0 p) (fun k => p * P1 p k) (P0 p) (P1 p) (fun d => (P_256 p hr d).1) (fun i k => (P_add p i k).1) 256 (Nat.le_refl _)
  have h1 := S_I a b (P1 p) (P1 p) (P0 p) (P0 p) (P1 p) (fun d => (P_256 p hr d).2) (fun i k => (P_add p i k).2) 256 (Nat.le_refl _)
  have hm : ∀ {x y x' y' : Int}, cg x x' → cg y y' → cg (x' * y') (x * y) := fun h k => ((h.symm.mul2 _).trans (k.symm.mul _))
  constructor
  · refine q0.trans (h0.trans ?_)
    refine cg.add (hm a0 b0) ?_
    have e : vsum (fun k => a k * (p * P1 p k)) 256 = p * S (P1 p) a := by
      unfold S
      rw [← vsum_mul]
      refine vsum_eq _ fun k _ => Int.mul_left_comm _ _ _
    rw [e, Int.mul_assoc]
    exact (hm a1 b1).mul p
  · refine q1.trans (h1.trans ?_)
    refine cg.trans (cg.add (hm a1 b0) (hm a0 b1)) ?_
    rw [Int.add_comm]
    exact cg.refl _
/-! ### What the program computes, two numbers at a time -/
theorem montJ_cg (v : Int) : cg (mont v) (169 * v) := by
  have h2 := mont_mul v
  obtain ⟨u, hu⟩ : ∃ u, u = (v * 62209 + 32768) % 65536 - 32768 := ⟨_, rfl⟩
  rw [← hu] at h2
  clear hu
  refine ⟨-169 * u - 3327 * mont v, ?_⟩
  generalize mont v = t at *
  omega
def MK (f g : Nat → Int) (i : Nat) : Int :=
  if i % 4 = 0 then mont (mont (f (i + 1) * g (i + 1)) * zs.getD (64 + i / 4) 0) + mont (f i * g i)
  else if i % 4 = 2 then -mont (mont (f (i + 1) * g (i + 1)) * zs.getD (64 + i / 4) 0) + mont (f i * g i)
  else mont (f (i - 1) * g i) + mont (f i * g (i - 1))
theorem MK_cg (f g : Nat → Int) (d : Nat) (hd : d < 128) :
    cg (MK f g (2 * d)) (169 * (f (2 * d) * g (2 * d) + wK 7 d * (f (2 * d + 1) * g (2 * d + 1)))) ∧
    cg (MK f g (2 * d + 1)) (169 * (f (2 * d) * g (2 * d + 1) + f (2 * d + 1) * g (2 * d))) := by
  constructor
  · have hk : 64 + 2 * d / 4 < 128 := by omega
    have hz : 2 ^ 6 + d / 2 = 64 + 2 * d / 4 := by omega
    have h1 := mont_cg (64 + 2 * d / 4) hk (montJ_cg (f (2 * d + 1) * g (2 * d + 1)))
    have h2 := montJ_cg (f (2 * d) * g (2 * d))
    rw [Int.mul_comm (zs.getD _ _)] at h1
    have hd2 : d % 2 = 0 ∨ d % 2 = 1 := by omega
    rcases hd2 with hd2 | hd2
    · have e : wK 7 d = zz (64 + 2 * d / 4) := by show (if _ then _ else _) = _; rw [if_pos hd2, hz]
      unfold MK
      rw [if_pos (by omega), e]
      refine (h1.add h2).trans ⟨0, ?_⟩
      rw [Int.mul_add, Int.mul_left_comm (zz _) 169]
      omega
    · have e : wK 7 d = -zz (64 + 2 * d / 4) := by show (if _ then _ else _) = _; rw [if_neg (by omega), hz]
      unfold MK
      rw [if_neg (by omega), if_pos (by omega), e]
      have h3 := (cg.sub (cg.refl 0) h1).add h2
      rw [Int.zero_sub] at h3
      refine h3.trans ⟨0, ?_⟩
      rw [Int.mul_add, Int.mul_left_comm (zz _) 169, Int.neg_mul, Int.mul_neg]
      omega
  · unfold MK
    rw [if_neg (by omega), if_neg (by omega), show 2 * d + 1 - 1 = 2 * d by omega, Int.mul_add]
    exact (montJ_cg _).add (montJ_cg _)
theorem FK_cg {f g : Nat → Int} (h : ∀ i, i < 256 → cg (f i) (g i)) (i : Nat) (hi : i < 256) : cg (FK f 7 i) (FK g 7 i) := by
  have hS : ∀ e, cg (S e f) (S e g) := fun e => vsum_cg _ fun k hk => (h k hk).mul2 _
  have hd : i / 2 < 128 := by omega
  have hi2 : i = 2 * (i / 2) ∨ i = 2 * (i / 2) + 1 := by omega
  obtain ⟨f0, f1⟩ := FK_S f (i / 2) hd
  obtain ⟨g0, g1⟩ := FK_S g (i / 2) hd
  rcases hi2 with e | e
  · rw [e]; exact f0.trans ((hS _).trans g0.symm)
  · rw [e]; exact f1.trans ((hS _).trans g1.symm)
theorem FK_lin (s : Int) (f : Nat → Int) (i : Nat) (hi : i < 256) : cg (FK (fun k => s * f k) 7 i) (s * FK f 7 i) := by
  have hS : ∀ e, S e (fun k => s * f k) = s * S e f := fun e => by
    unfold S
    rw [← vsum_mul]
    exact vsum_eq _ fun k _ => Int.mul_assoc _ _ _
  have hd : i / 2 < 128 := by omega
  have hi2 : i = 2 * (i / 2) ∨ i = 2 * (i / 2) + 1 := by omega
  obtain ⟨f0, f1⟩ := FK_S (fun k => s * f k) (i / 2) hd
  obtain ⟨g0, g1⟩ := FK_S f (i / 2) hd
  rw [hS] at f0 f1
  rcases hi2 with e | e
  · rw [e]; exact f0.trans (g0.symm.mul s)
  · rw [e]; exact f1.trans (g1.symm.mul s)
theorem pJ_bd (a b : Nat → Int) (i : Nat) {o : Nat → Int} (ho : ∀ t, 0 ≤ o t ∧ o t < 3329) : ∀ j t, 0 ≤ pJ a b i o j t ∧ pJ a b i o j t < 3329
  | 0, t => ho t
  | j + 1, t => by
    have h := pJ_bd a b i ho j t
    show 0 ≤ upd _ _ _ t ∧ upd _ _ _ t < 3329
    unfold upd
    split <;> omega
theorem pI_bd (a b : Nat → Int) : ∀ i t, 0 ≤ pI a b i t ∧ pI a b i t < 3329
  | 0, t => by show (0 : Int) ≤ 0 ∧ (0 : Int) < 3329; omega
  | i + 1, t => pJ_bd a b i (pI_bd a b i) 256 t
/-- the product, transformed back; the number told is the one that the last factor gives -/
theorem prod_is (f g x y z : Nat → Int) (hx : ∀ i, i < 256 → x i % 3329 = FK f 7 i % 3329) (hy : ∀ i, i < 256 → y i % 3329 = FK g 7 i % 3329) (hz : ∀ i, i < 256 → z i % 3329 = MK x y i % 3329) : ∀ i, i < 256 →
    pI (fun i => f i % 3329) (fun i => g i % 3329) 256 i = mont (1441 * GK z 7 i) % 3329 := by
  intro i hi
  have hm : ∀ q : Nat → Int, ∀ i, i < 256 → cg (q i % 3329) (q i) := fun q i _ => cg.of (Int.emod_emod_of_dvd _ (Int.dvd_refl _))
  have h1 : ∀ i, i < 256 → cg (x i) (FK (fun i => f i % 3329) 7 i) := fun i hi => (cg.of (hx i hi)).trans (FK_cg (hm f) i hi).symm
  have h2 : ∀ i, i < 256 → cg (y i) (FK (fun i => g i % 3329) 7 i) := fun i hi => (cg.of (hy i hi)).trans (FK_cg (hm g) i hi).symm
  have hb := pI_bd (fun i => f i % 3329) (fun i => g i % 3329) 256 i
  have hc : ∀ {p q p' q' : Int}, cg p p' → cg q q' → cg (p * q) (p' * q') := fun h k => ((h.mul2 _).trans (k.mul _))
  have h0 : ∀ i, i < 256 → cg (z i) (FK (fun k => 169 * pI (fun i => f i % 3329) (fun i => g i % 3329) 256 k) 7 i) := fun i hi => by
    refine (cg.of (hz i hi)).trans ?_
    refine cg.trans ?_ (FK_lin _ _ i hi).symm
    have hd : i / 2 < 128 := by omega
    have hi2 : i = 2 * (i / 2) ∨ i = 2 * (i / 2) + 1 := by omega
    obtain ⟨m0, m1⟩ := MK_cg x y (i / 2) hd
    obtain ⟨p0, p1⟩ := FK_prod (fun i => f i % 3329) (fun i => g i % 3329) (i / 2) hd
    have hA := h1 (2 * (i / 2)) (by omega)
    have hB := h1 (2 * (i / 2) + 1) (by omega)
    have hC := h2 (2 * (i / 2)) (by omega)
    have hD := h2 (2 * (i / 2) + 1) (by omega)
    rcases hi2 with e | e
    · rw [e]
      refine m0.trans (cg.mul _ (cg.trans ?_ p0.symm))
      exact (hc hA hC).add ((hc hB hD).mul _)
    · rw [e]
      refine m1.trans (cg.mul _ (cg.trans ?_ p1.symm))
      exact (hc hA hD).add (hc hB hC)
  have h3 := GK_FK _ _ h0 7 (by omega) i hi
  have h4 : cg (GK z 7 i) (128 * (169 * pI (fun i => f i % 3329) (fun i => g i % 3329) 256 i)) := h3
  have h5 := fin_cg h4
  rw [h5.mod]
  generalize pI (fun i => f i % 3329) (fun i => g i % 3329) 256 i = p at *
  omega
end Go.Proofs.YtgojphoejmbliaaDoor
