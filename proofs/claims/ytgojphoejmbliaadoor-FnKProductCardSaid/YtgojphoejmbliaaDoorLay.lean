/- General: a layer of butterflies, over any program: place by place, and while it is under way. -/
import Derived.Test.YtgojphoejmbliaaDoorUpto
namespace Go.Kd
open Go Go.RowKit

/-- Of the layer N over f: all blocks of 2 l places before o are done, and in the block at o the first m pairs. -/
def mixP (o l m : Nat) (N f : Nat → Int) (i : Nat) : Int := if i < o + m ∨ (o + l ≤ i ∧ i < o + l + m) then N i else f i
theorem mixP_zero (l : Nat) (N f : Nat → Int) : mixP 0 l 0 N f = f := by
  funext i
  unfold mixP
  rw [if_neg (by omega)]
theorem mixP_next (o l : Nat) (N f : Nat → Int) : mixP o l l N f = mixP (o + 2 * l) l 0 N f := by
  funext i
  unfold mixP
  by_cases h : i < o + 2 * l
  · rw [if_pos (by omega), if_pos (by omega)]
  · rw [if_neg (by omega), if_neg (by omega)]
theorem mixP_all {o i : Nat} (l : Nat) (N f : Nat → Int) (h : i < o) : mixP o l 0 N f i = N i := by unfold mixP; rw [if_pos (by omega)]
theorem mixP_lo {o l m : Nat} (N f : Nat → Int) (h : m < l) : mixP o l m N f (o + m) = f (o + m) := by unfold mixP; rw [if_neg (by omega)]
theorem mixP_hi {o l m : Nat} (N f : Nat → Int) : mixP o l m N f (o + m + l) = f (o + m + l) := by unfold mixP; rw [if_neg (by omega)]
theorem mixP_step {o l m : Nat} (N f : Nat → Int) (h : m < l) (x : Nat) : mixP o l (m + 1) N f x = if x = o + m then N (o + m) else if x = o + m + l then N (o + m + l) else mixP o l m N f x := by
  unfold mixP
  by_cases h1 : x = o + m
  · rw [if_pos (by omega), if_pos h1, h1]
  · rw [if_neg h1]
    by_cases h2 : x = o + m + l
    · rw [if_pos (by omega), if_pos h2, h2]
    · rw [if_neg h2]
      by_cases h3 : x < o + m ∨ (o + l ≤ x ∧ x < o + l + m)
      · rw [if_pos (by omega), if_pos h3]
      · rw [if_neg (by omega), if_neg h3]

/-- A layer: pairs at the distance l, in blocks of 2 l places; block b by A b and B b. -/
def lay (l : Nat) (A B : Nat → Int → Int → Int) (f : Nat → Int) (i : Nat) : Int := if i % (2 * l) < l then A (i / (2 * l)) (f i) (f (i + l)) else B (i / (2 * l)) (f (i - l)) (f i)
theorem lay_lo {l m : Nat} (A B : Nat → Int → Int → Int) (f : Nat → Int) (b : Nat) (h : m < l) : lay l A B f (2 * l * b + m) = A b (f (2 * l * b + m)) (f (2 * l * b + m + l)) := by
  unfold lay
  have e1 : (2 * l * b + m) % (2 * l) = m := by rw [Nat.mul_add_mod, Nat.mod_eq_of_lt (by omega)]
  have e2 : (2 * l * b + m) / (2 * l) = b := by rw [Nat.mul_add_div (by omega), Nat.div_eq_of_lt (by omega), Nat.add_zero]
  rw [e1, e2, if_pos h]
theorem lay_hi {l m : Nat} (A B : Nat → Int → Int → Int) (f : Nat → Int) (b : Nat) (h : m < l) : lay l A B f (2 * l * b + m + l) = B b (f (2 * l * b + m)) (f (2 * l * b + m + l)) := by
  unfold lay
  rw [Nat.add_assoc]
  have e1 : (2 * l * b + (m + l)) % (2 * l) = m + l := by rw [Nat.mul_add_mod, Nat.mod_eq_of_lt (by omega)]
  have e2 : (2 * l * b + (m + l)) / (2 * l) = b := by rw [Nat.mul_add_div (by omega), Nat.div_eq_of_lt (by omega), Nat.add_zero]
  rw [e1, e2, if_neg (by omega), ← Nat.add_assoc, Nat.add_sub_cancel]
/-- Layers one behind the other. -/
def runs (len : Nat → Nat) (A B : Nat → Nat → Int → Int → Int) (f : Nat → Int) : Nat → Nat → Int
  | 0 => f
  | n + 1 => lay (len n) (A n) (B n) (runs len A B f n)
end Go.Kd
