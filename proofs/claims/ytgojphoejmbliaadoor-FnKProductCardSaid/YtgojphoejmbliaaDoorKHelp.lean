/- Small facts on Kyber's reductions, and the statements' helpers where they say yes. -/
import Derived.Test.YtgojphoejmbliaaDoorKSpec
import Derived.Test.YtgojphoejmbliaaDoorKTan
namespace Go.Proofs.YtgojphoejmbliaaDoor
open Go Go.Proofs Go.RowKit Go.Kd

theorem norm_bd (x : Int) (h : -32768 ≤ x ∧ x ≤ 32767) : 0 ≤ csub (barrett x) ∧ csub (barrett x) < 3329 := by
  have := barrett_bd x h
  unfold csub
  split <;> omega
theorem norm_mod (x : Int) (h : -32768 ≤ x ∧ x ≤ 32767) : csub (barrett x) % 3329 = x % 3329 := by
  have := barrett_bd x h
  have hm := barrett_mod x
  unfold csub
  split <;> omega
theorem norm_eq (x : Int) (h : -32768 ≤ x ∧ x ≤ 32767) : csub (barrett x) = x % 3329 := by
  have := norm_bd x h
  have := norm_mod x h
  omega
theorem one_bd : ∀ i, i < 256 → -32768 ≤ oneF i ∧ oneF i ≤ 32767 := fun i _ => by unfold oneF; split <;> omega
theorem norm_one (i : Nat) : csub (barrett (oneF i)) = oneF i := by
  unfold oneF
  split <;> decide +kernel
theorem tomont_times (x : Int) : x % 3329 * (65536 % 3329) % 3329 = mont (x * 1353) % 3329 := by
  rw [tomont_mod]
  omega

theorem normal_yes (f : Nat → Int) (w : World) (h : ∀ i, i < 256 → 0 ≤ f i ∧ f i < 3329) :
    Calls Tryd.prog 4 #[.agg (cellsF 256 (ints .i16 f))] w fun e w' => e = .returned (.bool true) ∧ Ext w w' :=
  (normal_any f w (fun i hi => by have := h i hi; omega)).mono fun _ _ ⟨h1, h2⟩ => ⟨by rw [h1, forallB_true h], h2⟩
theorem within_yes (f : Nat → Int) (n : Int) (w : World) (hn : 0 ≤ n ∧ n ≤ 32767) (h : ∀ i, i < 256 → -n ≤ f i ∧ f i ≤ n) :
    Calls Tryd.prog 8 #[.agg (cellsF 256 (ints .i16 f)), .int .i64 n] w fun e w' => e = .returned (.bool true) ∧ Ext w w' :=
  (within_any f n w (fun i hi => by have := h i hi; omega) (by omega)).mono fun _ _ ⟨h1, h2⟩ => ⟨by rw [h1, forallB_true h], h2⟩
end Go.Proofs.YtgojphoejmbliaaDoor
