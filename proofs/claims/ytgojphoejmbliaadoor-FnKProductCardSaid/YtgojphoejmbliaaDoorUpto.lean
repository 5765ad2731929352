/- General: an array of which the places below j have turned. -/
import Derived.Test.YtgojphoejmbliaaDoorArr
namespace Go.Kd
open Go Go.RowKit

/-- the places below j turned, the others as they were -/
def upto (j : Nat) (g f : Nat → Value) : Nat → Value := fun x => if x < j then g x else f x

theorem upto_zero (g f : Nat → Value) : upto 0 g f = f := by funext x; simp [upto]
theorem upto_all {n : Nat} (g f : Nat → Value) : cellsF n (upto n g f) = cellsF n g := cellsF_congr fun i hi => by simp [upto, hi]
theorem upto_at {j : Nat} {g f : Nat → Value} : upto j g f j = f j := by simp [upto]
theorem upto_set {j : Nat} {g f : Nat → Value} {v : Value} (h : v = g j) : (fun x => if x = j then v else upto j g f x) = upto (j + 1) g f := by
  funext x
  by_cases h1 : x = j
  · subst h1; simp [upto, h]
  · by_cases h2 : x < j
    · simp [upto, h1, h2, show x < j + 1 by omega]
    · simp [upto, h1, h2, show ¬ x < j + 1 by omega]


/-- whether all places below n have a property -/
noncomputable def forallB (n : Nat) (p : Nat → Prop) : Bool := @decide (∀ i, i < n → p i) (Classical.propDecidable _)
theorem forallB_true {n : Nat} {p : Nat → Prop} (h : ∀ i, i < n → p i) : forallB n p = true := @decide_eq_true _ (Classical.propDecidable _) h
theorem forallB_false {n : Nat} {p : Nat → Prop} (j : Nat) (hj : j < n) (h : ¬ p j) : forallB n p = false := @decide_eq_false _ (Classical.propDecidable _) fun e => h (e j hj)
theorem forallB_or (n : Nat) (p : Nat → Prop) : (forallB n p = true ∧ ∀ i, i < n → p i) ∨ forallB n p = false := by
  by_cases h : ∀ i, i < n → p i
  · exact Or.inl ⟨forallB_true h, h⟩
  · exact Or.inr (@decide_eq_false _ (Classical.propDecidable _) h)
end Go.Kd
