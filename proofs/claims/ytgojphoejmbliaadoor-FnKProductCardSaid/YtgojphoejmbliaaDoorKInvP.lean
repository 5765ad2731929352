/- The layers of Kyber's transform back: plain laws. -/
import Derived.Test.YtgojphoejmbliaaDoorKNttP
import Derived.Test.YtgojphoejmbliaaDoorKReds
namespace Go.Proofs.YtgojphoejmbliaaDoor
open Go Go.Proofs Go.RowKit Go.Kd
def lenI (n : Nat) : Nat := 2 ^ (n + 1)
def rstart (n : Nat) : Nat := ([0, 1, 2, 19, 44, 61, 78, 79] : List Nat).getD n 0
def rcount (n : Nat) : Nat := ([0, 0, 16, 24, 16, 16, 0] : List Nat).getD n 0
def iA (_ _ : Nat) (x y : Int) : Int := x + y
def iB (n b : Nat) (x y : Int) : Int := mont (zs.getD (128 / 2 ^ n - 1 - b) 0 * (y - x))
/-- the numbers that the list names from s on, m of them, reduced -/
def redF (g : Nat → Int) (s : Nat) : Nat → Nat → Int
  | 0 => g
  | m + 1 => fun i => if i = (rs.getD (s + m) 0).toNat then barrett (redF g s m i) else redF g s m i
def GK (f : Nat → Int) : Nat → Nat → Int
  | 0 => f
  | n + 1 => redF (lay (lenI n) (iA n) (iB n) (GK f n)) (rstart n) (rcount n)
/-- bounds, in primes -/
def alpha (n i : Nat) : Nat := (([[1, 1, 1, 1, 1, 1, 1, 1, 1, 1, 1, 1, 1, 1, 1, 1, 1, 1, 1, 1, 1, 1, 1, 1, 1, 1, 1, 1, 1, 1, 1, 1, 1, 1, 1, 1, 1, 1, 1, 1, 1, 1, 1, 1, 1, 1, 1, 1, 1, 1, 1, 1, 1, 1, 1, 1, 1, 1, 1, 1, 1, 1, 1, 1, 1, 1, 1, 1, 1, 1, 1, 1, 1, 1, 1, 1, 1, 1, 1, 1, 1, 1, 1, 1, 1, 1, 1, 1, 1, 1, 1, 1, 1, 1, 1, 1, 1, 1, 1, 1, 1, 1, 1, 1, 1, 1, 1, 1, 1, 1, 1, 1, 1, 1, 1, 1, 1, 1, 1, 1, 1, 1, 1, 1, 1, 1, 1, 1, 1, 1, 1, 1, 1, 1, 1, 1, 1, 1, 1, 1, 1, 1, 1, 1, 1, 1, 1, 1, 1, 1, 1, 1, 1, 1, 1, 1, 1, 1, 1, 1, 1, 1, 1, 1, 1, 1, 1, 1, 1, 1, 1, 1, 1, 1, 1, 1, 1, 1, 1, 1, 1, 1, 1, 1, 1, 1, 1, 1, 1, 1, 1, 1, 1, 1, 1, 1, 1, 1, 1, 1, 1, 1, 1, 1, 1, 1, 1, 1, 1, 1, 1, 1, 1, 1, 1, 1, 1, 1, 1, 1, 1, 1, 1, 1, 1, 1, 1, 1, 1, 1, 1, 1, 1, 1, 1, 1, 1, 1, 1, 1, 1, 1, 1, 1, 1, 1, 1, 1, 1, 1, 1, 1, 1, 1, 1, 1], [2, 2, 1, 1, 2, 2, 1, 1, 2, 2, 1, 1, 2, 2, 1, 1, 2, 2, 1, 1, 2, 2, 1, 1, 2, 2, 1, 1, 2, 2, 1, 1, 2, 2, 1, 1, 2, 2, 1, 1, 2, 2, 1, 1, 2, 2, 1, 1, 2, 2, 1, 1, 2, 2, 1, 1, 2, 2, 1, 1, 2, 2, 1, 1, 2, 2, 1, 1, 2, 2, 1, 1, 2, 2, 1, 1, 2, 2, 1, 1, 2, 2, 1, 1, 2, 2, 1, 1, 2, 2, 1, 1, 2, 2, 1, 1, 2, 2, 1, 1, 2, 2, 1, 1, 2, 2, 1, 1, 2, 2, 1, 1, 2, 2, 1, 1, 2, 2, 1, 1, 2, 2, 1, 1, 2, 2, 1, 1, 2, 2, 1, 1, 2, 2, 1, 1, 2, 2, 1, 1, 2, 2, 1, 1, 2, 2, 1, 1, 2, 2, 1, 1, 2, 2, 1, 1, 2, 2, 1, 1, 2, 2, 1, 1, 2, 2, 1, 1, 2, 2, 1, 1, 2, 2, 1, 1, 2, 2, 1, 1, 2, 2, 1, 1, 2, 2, 1, 1, 2, 2, 1, 1, 2, 2, 1, 1, 2, 2, 1, 1, 2, 2, 1, 1, 2, 2, 1, 1, 2, 2, 1, 1, 2, 2, 1, 1, 2, 2, 1, 1, 2, 2, 1, 1, 2, 2, 1, 1, 2, 2, 1, 1, 2, 2, 1, 1, 2, 2, 1, 1, 2, 2, 1, 1, 2, 2, 1, 1, 2, 2, 1, 1, 2, 2, 1, 1], [4, 4, 2, 2, 1, 1, 1, 1, 4, 4, 2, 2, 1, 1, 1, 1, 4, 4, 2, 2, 1, 1, 1, 1, 4, 4, 2, 2, 1, 1, 1, 1, 4, 4, 2, 2, 1, 1, 1, 1, 4, 4, 2, 2, 1, 1, 1, 1, 4, 4, 2, 2, 1, 1, 1, 1, 4, 4, 2, 2, 1, 1, 1, 1, 4, 4, 2, 2, 1, 1, 1, 1, 4, 4, 2, 2, 1, 1, 1, 1, 4, 4, 2, 2, 1, 1, 1, 1, 4, 4, 2, 2, 1, 1, 1, 1, 4, 4, 2, 2, 1, 1, 1, 1, 4, 4, 2, 2, 1, 1, 1, 1, 4, 4, 2, 2, 1, 1, 1, 1, 4, 4, 2, 2, 1, 1, 1, 1, 4, 4, 2, 2, 1, 1, 1, 1, 4, 4, 2, 2, 1, 1, 1, 1, 4, 4, 2, 2, 1, 1, 1, 1, 4, 4, 2, 2, 1, 1, 1, 1, 4, 4, 2, 2, 1, 1, 1, 1, 4, 4, 2, 2, 1, 1, 1, 1, 4, 4, 2, 2, 1, 1, 1, 1, 4, 4, 2, 2, 1, 1, 1, 1, 4, 4, 2, 2, 1, 1, 1, 1, 4, 4, 2, 2, 1, 1, 1, 1, 4, 4, 2, 2, 1, 1, 1, 1, 4, 4, 2, 2, 1, 1, 1, 1, 4, 4, 2, 2, 1, 1, 1, 1, 4, 4, 2, 2, 1, 1, 1, 1, 4, 4, 2, 2, 1, 1, 1, 1, 4, 4, 2, 2, 1, 1, 1, 1], [8, 8, 4, 4, 2, 2, 2, 2, 1, 1, 1, 1, 1, 1, 1, 1, 1, 1, 4, 4, 2, 2, 2, 2, 1, 1, 1, 1, 1, 1, 1, 1, 8, 8, 4, 4, 2, 2, 2, 2, 1, 1, 1, 1, 1, 1, 1, 1, 1, 1, 4, 4, 2, 2, 2, 2, 1, 1, 1, 1, 1, 1, 1, 1, 8, 8, 4, 4, 2, 2, 2, 2, 1, 1, 1, 1, 1, 1, 1, 1, 1, 1, 4, 4, 2, 2, 2, 2, 1, 1, 1, 1, 1, 1, 1, 1, 8, 8, 4, 4, 2, 2, 2, 2, 1, 1, 1, 1, 1, 1, 1, 1, 1, 1, 4, 4, 2, 2, 2, 2, 1, 1, 1, 1, 1, 1, 1, 1, 8, 8, 4, 4, 2, 2, 2, 2, 1, 1, 1, 1, 1, 1, 1, 1, 1, 1, 4, 4, 2, 2, 2, 2, 1, 1, 1, 1, 1, 1, 1, 1, 8, 8, 4, 4, 2, 2, 2, 2, 1, 1, 1, 1, 1, 1, 1, 1, 1, 1, 4, 4, 2, 2, 2, 2, 1, 1, 1, 1, 1, 1, 1, 1, 8, 8, 4, 4, 2, 2, 2, 2, 1, 1, 1, 1, 1, 1, 1, 1, 1, 1, 4, 4, 2, 2, 2, 2, 1, 1, 1, 1, 1, 1, 1, 1, 8, 8, 4, 4, 2, 2, 2, 2, 1, 1, 1, 1, 1, 1, 1, 1, 1, 1, 4, 4, 2, 2, 2, 2, 1, 1, 1, 1, 1, 1, 1, 1], [1, 1, 8, 8, 4, 4, 4, 4, 2, 2, 2, 2, 2, 2, 2, 2, 1, 1, 1, 1, 1, 1, 1, 1, 1, 1, 1, 1, 1, 1, 1, 1, 1, 1, 1, 1, 4, 4, 4, 4, 2, 2, 2, 2, 2, 2, 2, 2, 1, 1, 1, 1, 1, 1, 1, 1, 1, 1, 1, 1, 1, 1, 1, 1, 1, 1, 8, 8, 4, 4, 4, 4, 2, 2, 2, 2, 2, 2, 2, 2, 1, 1, 1, 1, 1, 1, 1, 1, 1, 1, 1, 1, 1, 1, 1, 1, 1, 1, 1, 1, 4, 4, 4, 4, 2, 2, 2, 2, 2, 2, 2, 2, 1, 1, 1, 1, 1, 1, 1, 1, 1, 1, 1, 1, 1, 1, 1, 1, 1, 1, 8, 8, 4, 4, 4, 4, 2, 2, 2, 2, 2, 2, 2, 2, 1, 1, 1, 1, 1, 1, 1, 1, 1, 1, 1, 1, 1, 1, 1, 1, 1, 1, 1, 1, 4, 4, 4, 4, 2, 2, 2, 2, 2, 2, 2, 2, 1, 1, 1, 1, 1, 1, 1, 1, 1, 1, 1, 1, 1, 1, 1, 1, 1, 1, 8, 8, 4, 4, 4, 4, 2, 2, 2, 2, 2, 2, 2, 2, 1, 1, 1, 1, 1, 1, 1, 1, 1, 1, 1, 1, 1, 1, 1, 1, 1, 1, 1, 1, 4, 4, 4, 4, 2, 2, 2, 2, 2, 2, 2, 2, 1, 1, 1, 1, 1, 1, 1, 1, 1, 1, 1, 1, 1, 1, 1, 1], [2, 2, 1, 1, 8, 8, 8, 8, 4, 4, 4, 4, 4, 4, 4, 4, 2, 2, 2, 2, 2, 2, 2, 2, 2, 2, 2, 2, 2, 2, 2, 2, 1, 1, 1, 1, 1, 1, 1, 1, 1, 1, 1, 1, 1, 1, 1, 1, 1, 1, 1, 1, 1, 1, 1, 1, 1, 1, 1, 1, 1, 1, 1, 1, 2, 2, 1, 1, 1, 1, 1, 1, 4, 4, 4, 4, 4, 4, 4, 4, 2, 2, 2, 2, 2, 2, 2, 2, 2, 2, 2, 2, 2, 2, 2, 2, 1, 1, 1, 1, 1, 1, 1, 1, 1, 1, 1, 1, 1, 1, 1, 1, 1, 1, 1, 1, 1, 1, 1, 1, 1, 1, 1, 1, 1, 1, 1, 1, 2, 2, 1, 1, 8, 8, 8, 8, 4, 4, 4, 4, 4, 4, 4, 4, 2, 2, 2, 2, 2, 2, 2, 2, 2, 2, 2, 2, 2, 2, 2, 2, 1, 1, 1, 1, 1, 1, 1, 1, 1, 1, 1, 1, 1, 1, 1, 1, 1, 1, 1, 1, 1, 1, 1, 1, 1, 1, 1, 1, 1, 1, 1, 1, 2, 2, 1, 1, 1, 1, 1, 1, 4, 4, 4, 4, 4, 4, 4, 4, 2, 2, 2, 2, 2, 2, 2, 2, 2, 2, 2, 2, 2, 2, 2, 2, 1, 1, 1, 1, 1, 1, 1, 1, 1, 1, 1, 1, 1, 1, 1, 1, 1, 1, 1, 1, 1, 1, 1, 1, 1, 1, 1, 1, 1, 1, 1, 1], [4, 4, 2, 2, 1, 1, 1, 1, 8, 8, 8, 8, 8, 8, 8, 8, 4, 4, 4, 4, 4, 4, 4, 4, 4, 4, 4, 4, 4, 4, 4, 4, 2, 2, 2, 2, 2, 2, 2, 2, 2, 2, 2, 2, 2, 2, 2, 2, 2, 2, 2, 2, 2, 2, 2, 2, 2, 2, 2, 2, 2, 2, 2, 2, 1, 1, 1, 1, 1, 1, 1, 1, 1, 1, 1, 1, 1, 1, 1, 1, 1, 1, 1, 1, 1, 1, 1, 1, 1, 1, 1, 1, 1, 1, 1, 1, 1, 1, 1, 1, 1, 1, 1, 1, 1, 1, 1, 1, 1, 1, 1, 1, 1, 1, 1, 1, 1, 1, 1, 1, 1, 1, 1, 1, 1, 1, 1, 1, 4, 4, 2, 2, 1, 1, 1, 1, 1, 1, 1, 1, 1, 1, 1, 1, 4, 4, 4, 4, 4, 4, 4, 4, 4, 4, 4, 4, 4, 4, 4, 4, 2, 2, 2, 2, 2, 2, 2, 2, 2, 2, 2, 2, 2, 2, 2, 2, 2, 2, 2, 2, 2, 2, 2, 2, 2, 2, 2, 2, 2, 2, 2, 2, 1, 1, 1, 1, 1, 1, 1, 1, 1, 1, 1, 1, 1, 1, 1, 1, 1, 1, 1, 1, 1, 1, 1, 1, 1, 1, 1, 1, 1, 1, 1, 1, 1, 1, 1, 1, 1, 1, 1, 1, 1, 1, 1, 1, 1, 1, 1, 1, 1, 1, 1, 1, 1, 1, 1, 1, 1, 1, 1, 1, 1, 1, 1, 1], [8, 8, 4, 4, 2, 2, 2, 2, 9, 9, 9, 9, 9, 9, 9, 9, 8, 8, 8, 8, 8, 8, 8, 8, 8, 8, 8, 8, 8, 8, 8, 8, 4, 4, 4, 4, 4, 4, 4, 4, 4, 4, 4, 4, 4, 4, 4, 4, 4, 4, 4, 4, 4, 4, 4, 4, 4, 4, 4, 4, 4, 4, 4, 4, 2, 2, 2, 2, 2, 2, 2, 2, 2, 2, 2, 2, 2, 2, 2, 2, 2, 2, 2, 2, 2, 2, 2, 2, 2, 2, 2, 2, 2, 2, 2, 2, 2, 2, 2, 2, 2, 2, 2, 2, 2, 2, 2, 2, 2, 2, 2, 2, 2, 2, 2, 2, 2, 2, 2, 2, 2, 2, 2, 2, 2, 2, 2, 2, 1, 1, 1, 1, 1, 1, 1, 1, 1, 1, 1, 1, 1, 1, 1, 1, 1, 1, 1, 1, 1, 1, 1, 1, 1, 1, 1, 1, 1, 1, 1, 1, 1, 1, 1, 1, 1, 1, 1, 1, 1, 1, 1, 1, 1, 1, 1, 1, 1, 1, 1, 1, 1, 1, 1, 1, 1, 1, 1, 1, 1, 1, 1, 1, 1, 1, 1, 1, 1, 1, 1, 1, 1, 1, 1, 1, 1, 1, 1, 1, 1, 1, 1, 1, 1, 1, 1, 1, 1, 1, 1, 1, 1, 1, 1, 1, 1, 1, 1, 1, 1, 1, 1, 1, 1, 1, 1, 1, 1, 1, 1, 1, 1, 1, 1, 1, 1, 1, 1, 1, 1, 1, 1, 1, 1, 1, 1, 1]] : List (List Nat)).getD n []).getD i 0
theorem rs_facts : ∀ n, n < 7 → rstart (n + 1) = rstart n + rcount n + 1 ∧ rs.getD (rstart n + rcount n) 0 = -1 ∧ rstart n + rcount n < 79 := by decide
theorem rs_in_all : (List.range 7).all (fun n => (List.range (rcount n)).all fun m => decide (0 ≤ rs.getD (rstart n + m) 0 ∧ rs.getD (rstart n + m) 0 < 256)) = true := by decide +kernel
theorem rs_in (n m : Nat) (hn : n < 7) (hm : m < rcount n) : 0 ≤ rs.getD (rstart n + m) 0 ∧ rs.getD (rstart n + m) 0 < 256 := by
  have h := List.all_eq_true.1 (List.all_eq_true.1 rs_in_all n (List.mem_range.2 hn)) m (List.mem_range.2 hm)
  exact of_decide_eq_true h
/-- is a number in the list of the layer -/
def inR (n i : Nat) : Bool := (List.range (rcount n)).any fun m => (rs.getD (rstart n + m) 0).toNat == i
theorem alpha_all : (List.range 7).all (fun n => (List.range 256).all fun i => decide (if i % (2 * lenI n) < lenI n then alpha n i + alpha n (i + lenI n) ≤ 9 ∧ (inR n i = true ∨ alpha n i + alpha n (i + lenI n) ≤ alpha (n + 1) i) else True) && decide (1 ≤ alpha (n + 1) i)) = true := by decide +kernel
theorem alpha_step (n i : Nat) (hn : n < 7) (hi : i < 256) : (i % (2 * lenI n) < lenI n → alpha n i + alpha n (i + lenI n) ≤ 9 ∧ (inR n i = true ∨ alpha n i + alpha n (i + lenI n) ≤ alpha (n + 1) i)) ∧ 1 ≤ alpha (n + 1) i := by
  have h := List.all_eq_true.1 (List.all_eq_true.1 alpha_all n (List.mem_range.2 hn)) i (List.mem_range.2 hi)
  simp only [Bool.and_eq_true, decide_eq_true_eq] at h
  refine ⟨fun hlt => ?_, h.2⟩
  have h1 := h.1
  rw [if_pos hlt] at h1
  exact h1
theorem alpha0_all : (List.range 256).all (fun i => alpha 0 i == 1) = true := by decide +kernel
theorem alpha0 (i : Nat) (hi : i < 256) : alpha 0 i = 1 := eq_of_beq (List.all_eq_true.1 alpha0_all i (List.mem_range.2 hi))
theorem alpha9_all : (List.range 8).all (fun n => (List.range 256).all fun i => decide (alpha n i ≤ 9)) = true := by decide +kernel
theorem alpha9 (n i : Nat) (hn : n < 8) (hi : i < 256) : alpha n i ≤ 9 := of_decide_eq_true (List.all_eq_true.1 (List.all_eq_true.1 alpha9_all n (List.mem_range.2 hn)) i (List.mem_range.2 hi))
theorem lenI_facts : ∀ n, n < 7 → 2 ≤ lenI n ∧ lenI n ≤ 128 ∧ lenI (n + 1) = 2 * lenI n ∧ 2 * lenI n * (64 / 2 ^ n) = 256 ∧ 1 ≤ 64 / 2 ^ n ∧ 64 / 2 ^ n ≤ 64 ∧ 128 / 2 ^ n = 2 * (64 / 2 ^ n) ∧ 128 / 2 ^ (n + 1) = 64 / 2 ^ n ∧ lenI n = lenK (6 - n) := by decide
theorem domI_facts (n i : Nat) (hn : n < 7) (hi : i < 256) : (i % (2 * lenI n) < lenI n → i + lenI n < 256) ∧ (¬ i % (2 * lenI n) < lenI n → lenI n ≤ i) ∧ i / (2 * lenI n) < 64 / 2 ^ n := by
  have h : n = 0 ∨ n = 1 ∨ n = 2 ∨ n = 3 ∨ n = 4 ∨ n = 5 ∨ n = 6 := by omega
  rcases h with h | h | h | h | h | h | h <;> subst h <;> simp only [lenI, Nat.reducePow, Nat.reduceDiv, Nat.reduceMul, Nat.reduceAdd] <;> omega
theorem mont_any_z (k : Nat) (hk : k < 128) (y : Int) (hy : -32767 ≤ y ∧ y ≤ 32767) : -3329 ≤ mont (zs.getD k 0 * y) ∧ mont (zs.getD k 0 * y) ≤ 3329 := by
  have h := prod_bd _ y 32767 (zs_bd k hk) hy
  exact mont_bd _ (by omega)
theorem redF_in (g : Nat → Int) (s : Nat) (hg : ∀ i, i < 256 → -32768 ≤ g i ∧ g i ≤ 32767) : ∀ m i, i < 256 → -32768 ≤ redF g s m i ∧ redF g s m i ≤ 32767 ∧ (((List.range m).any fun k => (rs.getD (s + k) 0).toNat == i) = true → -3329 ≤ redF g s m i ∧ redF g s m i ≤ 3329) ∧ (((List.range m).any fun k => (rs.getD (s + k) 0).toNat == i) = false → redF g s m i = g i)
  | 0, i, hi => ⟨(hg i hi).1, (hg i hi).2, fun h => by simp at h, fun _ => rfl⟩
  | m + 1, i, hi => by
    obtain ⟨h1, h2, h3, h4⟩ := redF_in g s hg m i hi
    have hb := barrett_bd (redF g s m i) ⟨h1, h2⟩
    rw [List.range_succ, List.any_append]
    simp only [List.any_cons, List.any_nil, Bool.or_false, redF]
    by_cases h : i = (rs.getD (s + m) 0).toNat
    · rw [if_pos h]
      refine ⟨by omega, by omega, fun _ => by omega, fun hf => ?_⟩
      rw [h] at hf
      simp at hf
    · rw [if_neg h]
      have hne : ((rs.getD (s + m) 0).toNat == i) = false := by simpa using fun e => h e.symm
      rw [hne, Bool.or_false]
      exact ⟨h1, h2, h3, h4⟩
theorem GK_bd (f : Nat → Int) (hf : ∀ i, i < 256 → -3329 ≤ f i ∧ f i ≤ 3329) : ∀ n, n ≤ 7 → ∀ i, i < 256 → -(3329 * (alpha n i : Int)) ≤ GK f n i ∧ GK f n i ≤ 3329 * (alpha n i : Int)
  | 0, _, i, hi => by rw [alpha0 i hi]; exact hf i hi
  | n + 1, hn, i, hi => by
    have ih := GK_bd f hf n (by omega)
    have hlay : ∀ i, i < 256 → -32768 ≤ lay (lenI n) (iA n) (iB n) (GK f n) i ∧ lay (lenI n) (iA n) (iB n) (GK f n) i ≤ 32767 ∧ (inR n i = false → -(3329 * (alpha (n + 1) i : Int)) ≤ lay (lenI n) (iA n) (iB n) (GK f n) i ∧ lay (lenI n) (iA n) (iB n) (GK f n) i ≤ 3329 * (alpha (n + 1) i : Int)) := fun i hi => by
      obtain ⟨d1, d2, d3⟩ := domI_facts n i (by omega) hi
      obtain ⟨a1, a2⟩ := alpha_step n i (by omega) hi
      obtain ⟨_, _, _, _, _, e6, e7, _, _⟩ := lenI_facts n (by omega)
      unfold lay iA iB
      by_cases h : i % (2 * lenI n) < lenI n
      · rw [if_pos h]
        have h1 := ih i hi
        have h2 := ih (i + lenI n) (d1 h)
        obtain ⟨a3, a4⟩ := a1 h
        refine ⟨by omega, by omega, fun hr => ?_⟩
        rcases a4 with a4 | a4
        · rw [a4] at hr; cases hr
        · omega
      · rw [if_neg h]
        have h1 := ih (i - lenI n) (by omega)
        have h2 := ih i hi
        have h5 := alpha9 n i (by omega) hi
        have h6 := alpha9 n (i - lenI n) (by omega) (by omega)
        have hj : (i - lenI n) % (2 * lenI n) < lenI n := by
          have hn' : n = 0 ∨ n = 1 ∨ n = 2 ∨ n = 3 ∨ n = 4 ∨ n = 5 ∨ n = 6 := by omega
          clear h1 h2 h5 h6 a1 a2 d3 ih e6 e7
          revert h d1 d2
          rcases hn' with hn' | hn' | hn' | hn' | hn' | hn' | hn' <;> subst hn' <;> simp only [lenI, Nat.reducePow, Nat.reduceMul, Nat.reduceAdd] <;> omega
        obtain ⟨b1, _⟩ := alpha_step n (i - lenI n) (by omega) (by omega)
        have b2 := (b1 hj).1
        rw [Nat.sub_add_cancel (d2 h)] at b2
        have hk : 128 / 2 ^ n - 1 - i / (2 * lenI n) < 128 := by
          have hq : 128 / 2 ^ n ≤ 128 := Nat.div_le_self _ _
          generalize 128 / 2 ^ n = q at *
          generalize i / (2 * lenI n) = q2 at *
          omega
        have h3 := mont_any_z (128 / 2 ^ n - 1 - i / (2 * lenI n)) hk (GK f n i - GK f n (i - lenI n)) (by omega)
        exact ⟨by omega, by omega, fun _ => by omega⟩
    obtain ⟨r1, r2, r3, r4⟩ := redF_in (lay (lenI n) (iA n) (iB n) (GK f n)) (rstart n) (fun i hi => ⟨(hlay i hi).1, (hlay i hi).2.1⟩) (rcount n) i hi
    have a2 := (alpha_step n i (by omega) hi).2
    show _ ≤ redF _ _ _ i ∧ redF _ _ _ i ≤ _
    cases hr : inR n i with
    | true =>
      have := r3 hr
      omega
    | false =>
      rw [r4 hr]
      exact (hlay i hi).2.2 hr
end Go.Proofs.YtgojphoejmbliaaDoor
