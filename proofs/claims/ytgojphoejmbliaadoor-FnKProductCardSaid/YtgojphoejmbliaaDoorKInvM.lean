/- The transform back undoes the transform, and the other way round (Kyber): plain laws. -/
import Derived.Test.YtgojphoejmbliaaDoorKInvP
namespace Go.Proofs.YtgojphoejmbliaaDoor
open Go Go.Proofs Go.RowKit Go.Kd
/-- the same modulo the prime -/
def cg (a b : Int) : Prop := ∃ c, a = b + 3329 * c
theorem cg.refl (a : Int) : cg a a := ⟨0, by omega⟩
theorem cg.symm {a b : Int} (h : cg a b) : cg b a := let ⟨c, hc⟩ := h; ⟨-c, by omega⟩
theorem cg.trans {a b c : Int} (h : cg a b) (k : cg b c) : cg a c := let ⟨x, hx⟩ := h; let ⟨y, hy⟩ := k; ⟨x + y, by omega⟩
theorem cg.add {a b c d : Int} (h : cg a b) (k : cg c d) : cg (a + c) (b + d) := let ⟨x, hx⟩ := h; let ⟨y, hy⟩ := k; ⟨x + y, by omega⟩
theorem cg.sub {a b c d : Int} (h : cg a b) (k : cg c d) : cg (a - c) (b - d) := let ⟨x, hx⟩ := h; let ⟨y, hy⟩ := k; ⟨x - y, by omega⟩
theorem cg.mul (z : Int) {a b : Int} (h : cg a b) : cg (z * a) (z * b) := let ⟨x, hx⟩ := h; ⟨z * x, by rw [hx, Int.mul_add, Int.mul_left_comm]⟩
theorem cg.mul2 {a b : Int} (z : Int) (h : cg a b) : cg (a * z) (b * z) := by rw [Int.mul_comm a, Int.mul_comm b]; exact h.mul z
theorem cg.mod {a b : Int} (h : cg a b) : a % 3329 = b % 3329 := let ⟨c, hc⟩ := h; by omega
theorem cg.of {a b : Int} (h : a % 3329 = b % 3329) : cg a b := ⟨(a - b) / 3329, by omega⟩
theorem mont_cg (k : Nat) (hk : k < 128) {y y' : Int} (h : cg y y') : cg (mont (zs.getD k 0 * y)) (zz k * y') := (mont_root k hk y).elim fun c hc => cg.trans ⟨c, hc⟩ (h.mul _)
theorem barrett_cg (x : Int) : cg (barrett x) x := cg.of (barrett_mod x)
theorem pair_all : (List.range 7).all (fun m => (List.range (2 ^ m)).all fun c => zz (2 ^ (m + 1) - 1 - c) * zz (2 ^ m + c) % 3329 == 3328) = true := by decide +kernel
theorem pair (m c : Nat) (hm : m < 7) (hc : c < 2 ^ m) : cg (zz (2 ^ (m + 1) - 1 - c) * zz (2 ^ m + c)) (-1) := by
  have h := eq_of_beq (List.all_eq_true.1 (List.all_eq_true.1 pair_all m (List.mem_range.2 hm)) c (List.mem_range.2 hc))
  exact cg.of (by rw [h]; decide)
theorem red_cg (g : Nat → Int) (s : Nat) : ∀ m i, cg (redF g s m i) (g i)
  | 0, i => cg.refl _
  | m + 1, i => by
    show cg (if _ then _ else _) _
    split
    · exact (barrett_cg _).trans (red_cg g s m i)
    · exact red_cg g s m i
/-- what is known of places of a layer: i in the lower half, or i = j + l with j in the lower half of the same block -/
theorem half (n i : Nat) (hn : n < 7) (hi : i < 256) :
    (i % (2 * lenI n) < lenI n ∧ i + lenI n < 256 ∧ ¬ (i + lenI n) % (2 * lenI n) < lenI n ∧ (i + lenI n) / (2 * lenI n) = i / (2 * lenI n)) ∨
    (¬ i % (2 * lenI n) < lenI n ∧ lenI n ≤ i ∧ (i - lenI n) % (2 * lenI n) < lenI n ∧ (i - lenI n) / (2 * lenI n) = i / (2 * lenI n)) := by
  have h : n = 0 ∨ n = 1 ∨ n = 2 ∨ n = 3 ∨ n = 4 ∨ n = 5 ∨ n = 6 := by omega
  rcases h with h | h | h | h | h | h | h <;> subst h <;> simp only [lenI, Nat.reducePow, Nat.reduceMul, Nat.reduceAdd] <;> omega
theorem pw_facts : ∀ n, n < 7 → 128 / 2 ^ n = 2 ^ (6 - n + 1) ∧ 64 / 2 ^ n = 2 ^ (6 - n) ∧ 7 - n = 6 - n + 1 ∧ 7 - (n + 1) = 6 - n := by decide
theorem idx (n c : Nat) (hn : n < 7) (hc : c < 64 / 2 ^ n) : 128 / 2 ^ n - 1 - c < 128 ∧ 2 ^ (6 - n) + c < 128 ∧ c < 2 ^ (6 - n) := by
  have h : n = 0 ∨ n = 1 ∨ n = 2 ∨ n = 3 ∨ n = 4 ∨ n = 5 ∨ n = 6 := by omega
  revert hc
  rcases h with h | h | h | h | h | h | h <;> subst h <;> simp only [Nat.reducePow, Nat.reduceDiv, Nat.reduceSub] <;> omega
/-- back behind forth: 2^n times the layer from which it came -/
theorem GK_FK (f g : Nat → Int) (h0 : ∀ i, i < 256 → cg (g i) (FK f 7 i)) : ∀ n, n ≤ 7 → ∀ i, i < 256 → cg (GK g n i) ((2 : Int) ^ n * FK f (7 - n) i)
  | 0, _, i, hi => by have h := h0 i hi; simpa [GK] using h
  | n + 1, hn, i, hi => by
    have ih := GK_FK f g h0 n (by omega)
    obtain ⟨p1, p2, p3, p4⟩ := pw_facts n (by omega)
    obtain ⟨_, _, _, _, _, _, _, _, e9⟩ := lenI_facts n (by omega)
    rw [p3] at ih
    rw [p4]
    refine (red_cg _ _ _ i).trans ?_
    have hF : FK f (6 - n + 1) = lay (lenI n) (kA (6 - n)) (kB (6 - n)) (FK f (6 - n)) := by rw [e9]; rfl
    have e2 : (2 : Int) ^ (n + 1) = 2 ^ n * 2 := Int.pow_succ _ _
    rw [e2]
    obtain ⟨_, _, d3⟩ := domI_facts n i (by omega) hi
    obtain ⟨i1, i2, i3⟩ := idx n _ (by omega) d3
    rcases half n i (by omega) hi with ⟨c1, c2, c3, c4⟩ | ⟨c1, c2, c3, c4⟩
    · have h1 := ih i hi
      have h2 := ih (i + lenI n) c2
      have v1 : FK f (6 - n + 1) i = FK f (6 - n) i + mont (zs.getD (2 ^ (6 - n) + i / (2 * lenI n)) 0 * FK f (6 - n) (i + lenI n)) := by rw [hF]; unfold lay kA; rw [if_pos c1]
      have v2 : FK f (6 - n + 1) (i + lenI n) = FK f (6 - n) i - mont (zs.getD (2 ^ (6 - n) + i / (2 * lenI n)) 0 * FK f (6 - n) (i + lenI n)) := by rw [hF]; unfold lay kB; rw [if_neg c3, c4, Nat.add_sub_cancel]
      have v3 : lay (lenI n) (iA n) (iB n) (GK g n) i = GK g n i + GK g n (i + lenI n) := by unfold lay iA; rw [if_pos c1]
      rw [v3]
      have h3 := h1.add h2
      rw [v1, v2, ← Int.mul_add] at h3
      refine h3.trans ?_
      generalize mont (zs.getD (2 ^ (6 - n) + i / (2 * lenI n)) 0 * FK f (6 - n) (i + lenI n)) = t
      rw [show FK f (6 - n) i + t + (FK f (6 - n) i - t) = 2 * FK f (6 - n) i by omega, ← Int.mul_assoc]
      exact cg.refl _
    · obtain ⟨j, hj⟩ : ∃ j, j = i - lenI n := ⟨_, rfl⟩
      have hij : i = j + lenI n := by omega
      rw [← hj] at c3 c4
      have h1 := ih i hi
      have h2 := ih j (by omega)
      have v1 : FK f (6 - n + 1) j = FK f (6 - n) j + mont (zs.getD (2 ^ (6 - n) + i / (2 * lenI n)) 0 * FK f (6 - n) i) := by rw [hF]; unfold lay kA; rw [if_pos c3, c4, ← hij]
      have v2 : FK f (6 - n + 1) i = FK f (6 - n) j - mont (zs.getD (2 ^ (6 - n) + i / (2 * lenI n)) 0 * FK f (6 - n) i) := by rw [hF]; unfold lay kB; rw [if_neg c1, ← hj]
      have v3 : lay (lenI n) (iA n) (iB n) (GK g n) i = mont (zs.getD (128 / 2 ^ n - 1 - i / (2 * lenI n)) 0 * (GK g n i - GK g n j)) := by unfold lay iB; rw [if_neg c1, ← hj]
      rw [v3]
      refine (mont_cg _ i1 (h1.sub h2)).trans ?_
      rw [v1, v2, ← Int.mul_sub]
      have ht := mont_cg (2 ^ (6 - n) + i / (2 * lenI n)) i2 (cg.refl (FK f (6 - n) i))
      have hp := pair (6 - n) (i / (2 * lenI n)) (by omega) i3
      rw [p1]
      generalize mont (zs.getD (2 ^ (6 - n) + i / (2 * lenI n)) 0 * FK f (6 - n) i) = t at *
      generalize FK f (6 - n) i = y at *
      generalize zz (2 ^ (6 - n) + i / (2 * lenI n)) = z at *
      generalize zz (2 ^ (6 - n + 1) - 1 - i / (2 * lenI n)) = z' at *
      rw [show FK f (6 - n) j - t - (FK f (6 - n) j + t) = -2 * t by omega]
      have q1 : cg (z' * (2 ^ n * (-2 * t))) (z' * (2 ^ n * (-2 * (z * y)))) := ((ht.mul (-2)).mul (2 ^ n)).mul z'
      refine q1.trans ?_
      have q2 : z' * (2 ^ n * (-2 * (z * y))) = (z' * z) * (2 ^ n * (-2 * y)) := by
        rw [Int.mul_left_comm (-2) z y, Int.mul_left_comm (2 ^ n) z, Int.mul_assoc]
      rw [q2]
      refine (hp.mul2 _).trans ?_
      have q3 : -1 * (2 ^ n * (-2 * y)) = 2 ^ n * 2 * y := by
        rw [Int.mul_assoc, Int.neg_mul, Int.one_mul, ← Int.mul_neg]
        congr 1
        omega
      rw [q3]
      exact cg.refl _
/-- the last factor -/
theorem fin_cg {x y : Int} (h : cg x y) : cg (mont (1441 * x)) (512 * y) := by
  obtain ⟨c, hc⟩ := h
  have h2 := mont_mul (1441 * x)
  obtain ⟨u, hu⟩ : ∃ u, u = (1441 * x * 62209 + 32768) % 65536 - 32768 := ⟨_, rfl⟩
  rw [← hu] at h2
  clear hu
  refine cg.of ?_
  generalize mont (1441 * x) = t at *
  subst hc
  omega
end Go.Proofs.YtgojphoejmbliaaDoor
