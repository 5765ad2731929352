/- laws.FnKNTTForth returns true at every polynomial, where the tables are those of the text. -/
import Derived.Test.YtidgcjmgekeapaaDoorKInv
import Derived.Test.YtidgcjmgekeapaaDoorKInvM
import Derived.Test.YtidgcjmgekeapaaDoorKNtt
import Derived.Test.YtidgcjmgekeapaaDoorKTan
import Derived.Test.YtidgcjmgekeapaaDoorCanon
import Derived.Test.YtidgcjmgekeapaaDoorKSpec
import Derived.Test.YtidgcjmgekeapaaDoorKMap
import Derived.Test.YtidgcjmgekeapaaDoorOnly2
import Derived.Lib.Hide
namespace Go.Proofs.YtidgcjmgekeapaaDoor.fnKNTTForth
open Go Go.Proofs Go.RowKit Go.Kd
set_option linter.unusedSimpArgs false
set_option linter.unusedVariables false

theorem within_is (f : Nat → Int) (n : Int) (v : Bool) (w : World) (hb : ∀ i, i < 256 → -32768 ≤ f i ∧ f i ≤ 32767) (hn : 0 ≤ n ∧ n ≤ 1000000) (he : forallB 256 (fun i => -n ≤ f i ∧ f i ≤ n) = v) :
    Calls Tryd.prog 15 #[.agg (cellsF 256 (ints .i16 f)), .int .i64 n] w fun e w' => e = .returned (.bool v) ∧ Ext w w' := by
  subst he
  exact within_any f n w hb hn
theorem lenK_I : ∀ m, m < 7 → lenK m = lenI (6 - m) ∧ 2 ^ (6 - (6 - m)) = 2 ^ m ∧ 128 / 2 ^ (6 - m) = 2 ^ (m + 1) ∧ 7 - m = 6 - m + 1 ∧ 7 - (m + 1) = 6 - m ∧ 64 / 2 ^ (6 - m) = 2 ^ m := by decide
theorem idx2 (m c : Nat) (hm : m < 7) (hc : c < 2 ^ m) : 2 ^ (m + 1) - 1 - c < 128 ∧ 2 ^ m + c < 128 := by
  have h : m = 0 ∨ m = 1 ∨ m = 2 ∨ m = 3 ∨ m = 4 ∨ m = 5 ∨ m = 6 := by omega
  revert hc
  rcases h with h | h | h | h | h | h | h <;> subst h <;> simp only [Nat.reducePow, Nat.reduceAdd] <;> omega
/-- forth behind back -/
theorem FK_GK (f g : Nat → Int) (h0 : ∀ i, i < 256 → cg (g i) (512 * GK f 7 i)) : ∀ m, m ≤ 7 → ∀ i, i < 256 → cg (FK g m i) (512 * ((2 : Int) ^ m * GK f (7 - m) i))
  | 0, _, i, hi => by have h := h0 i hi; simpa [FK, runs] using h
  | m + 1, hm, i, hi => by
    have ih := FK_GK f g h0 m (by omega)
    obtain ⟨q1, q2, q3, q4, q5, q6⟩ := lenK_I m (by omega)
    rw [q4] at ih
    rw [q5]
    obtain ⟨n, en⟩ : ∃ n, n = 6 - m := ⟨_, rfl⟩
    rw [← en] at q1 q2 q3 ih q6 ⊢
    have hn : n < 7 := by omega
    have e2 : (2 : Int) ^ (m + 1) = 2 ^ m * 2 := Int.pow_succ _ _
    rw [e2]
    have hG : ∀ j, cg (GK f (n + 1) j) (lay (lenI n) (iA n) (iB n) (GK f n) j) := fun j => red_cg _ _ _ j
    have ih2 : ∀ j, j < 256 → cg (FK g m j) (512 * (2 ^ m * lay (lenI n) (iA n) (iB n) (GK f n) j)) := fun j hj => (ih j hj).trans (((hG j).mul _).mul _)
    obtain ⟨_, _, d3⟩ := domI_facts n i hn hi
    rw [q6] at d3
    obtain ⟨i1, i2⟩ := idx2 m _ (by omega) d3
    have hp := pair m (i / (2 * lenI n)) (by omega) d3
    have hL : FK g (m + 1) = lay (lenI n) (kA m) (kB m) (FK g m) := by rw [← q1]; rfl
    rw [hL]
    -- the two numbers of a pair (j below, i above): x, y before the layer back
    have key : ∀ j, j < 256 → j + lenI n < 256 → j % (2 * lenI n) < lenI n → ¬ (j + lenI n) % (2 * lenI n) < lenI n → j / (2 * lenI n) = i / (2 * lenI n) → (j + lenI n) / (2 * lenI n) = i / (2 * lenI n) →
        cg (FK g m j + mont (zs.getD (2 ^ m + i / (2 * lenI n)) 0 * FK g m (j + lenI n))) (512 * (2 ^ m * 2 * GK f n j)) ∧ cg (FK g m j - mont (zs.getD (2 ^ m + i / (2 * lenI n)) 0 * FK g m (j + lenI n))) (512 * (2 ^ m * 2 * GK f n (j + lenI n))) := fun j hj hj2 c1 c2 b1 b2 => by
      have h1 := ih2 j hj
      have h2 := ih2 (j + lenI n) hj2
      have v1 : lay (lenI n) (iA n) (iB n) (GK f n) j = GK f n j + GK f n (j + lenI n) := by unfold lay iA; rw [if_pos c1]
      have v2 : lay (lenI n) (iA n) (iB n) (GK f n) (j + lenI n) = mont (zs.getD (2 ^ (m + 1) - 1 - i / (2 * lenI n)) 0 * (GK f n (j + lenI n) - GK f n j)) := by unfold lay iB; rw [if_neg c2, Nat.add_sub_cancel, b2, q3]
      rw [v1] at h1
      rw [v2] at h2
      have h3 := mont_cg (2 ^ m + i / (2 * lenI n)) i2 h2
      have h4 := mont_cg (2 ^ (m + 1) - 1 - i / (2 * lenI n)) i1 (cg.refl (GK f n (j + lenI n) - GK f n j))
      generalize mont (zs.getD (2 ^ m + i / (2 * lenI n)) 0 * FK g m (j + lenI n)) = t at *
      generalize mont (zs.getD (2 ^ (m + 1) - 1 - i / (2 * lenI n)) 0 * (GK f n (j + lenI n) - GK f n j)) = s at *
      generalize zz (2 ^ m + i / (2 * lenI n)) = z at *
      generalize zz (2 ^ (m + 1) - 1 - i / (2 * lenI n)) = z' at *
      generalize GK f n j = x at *
      generalize GK f n (j + lenI n) = y at *
      generalize FK g m j = u at *
      generalize (2 : Int) ^ m = P at *
      -- t = z * 512 * P * s, s = z' * (y - x), z' * z = -1
      have k1 : cg t (512 * (P * (x - y))) := by
        refine h3.trans ?_
        have k2 : cg (z * (512 * (P * s))) (z * (512 * (P * (z' * (y - x))))) := ((h4.mul P).mul 512).mul z
        refine k2.trans ?_
        have k3 : z * (512 * (P * (z' * (y - x)))) = z' * z * (512 * (P * (y - x))) := by
          rw [Int.mul_left_comm P z', Int.mul_left_comm 512 z', Int.mul_left_comm z z', Int.mul_assoc]
        rw [k3]
        refine (hp.mul2 _).trans ?_
        have k4 : -1 * (512 * (P * (y - x))) = 512 * (P * (x - y)) := by
          rw [show x - y = -(y - x) by omega, Int.mul_neg, Int.mul_neg]
          omega
        rw [k4]
        exact cg.refl _
      constructor
      · refine (h1.add k1).trans ?_
        rw [← Int.mul_add, ← Int.mul_add, show x + y + (x - y) = 2 * x by omega, ← Int.mul_assoc P]
        exact cg.refl _
      · refine (h1.sub k1).trans ?_
        rw [← Int.mul_sub, ← Int.mul_sub, show x + y - (x - y) = 2 * y by omega, ← Int.mul_assoc P]
        exact cg.refl _
    rcases half n i hn hi with ⟨c1, c2, c3, c4⟩ | ⟨c1, c2, c3, c4⟩
    · have h := (key i hi c2 c1 c3 rfl c4).1
      unfold lay kA
      rw [if_pos c1]
      exact h
    · have hij : i - lenI n + lenI n = i := by omega
      have h := (key (i - lenI n) (by omega) (by omega) c3 (by rw [hij]; exact c1) c4 (by rw [hij])).2
      rw [hij] at h
      unfold lay kB
      rw [if_neg c1]
      exact h
theorem forth_is (f : Nat → Int) : ∀ i, i < 256 → f i % 3329 * (65536 % 3329) % 3329 = FK (IK f) 7 i % 3329 := by
  intro i hi
  have h1 := FK_GK f (IK f) (fun i hi => fin_cg (cg.refl _)) 7 (by omega) i hi
  have h2 : cg (FK (IK f) 7 i) (512 * (128 * f i)) := h1
  rw [h2.mod]
  generalize f i = x
  omega
theorem IK_bd (g : Nat → Int) (hg : ∀ i, i < 256 → -3329 ≤ g i ∧ g i ≤ 3329) : ∀ i, i < 256 → -3329 ≤ IK g i ∧ IK g i ≤ 3329 := by
  intro i hi
  have h1 := GK_bd g hg 7 (by omega) i hi
  have h2 := alpha9 7 i (by omega) hi
  exact mont_bd _ (by omega)
set_option maxRecDepth 100000 in
set_option maxHeartbeats 2000000 in
theorem walk (f : Nat → Int) (hf : ∀ i, i < 256 → (Lit.int .i16 (f i)).wf = true) (w : World) (hz : ZetasIn w) (hrd : RedsIn w) :
    Calls Tryd.prog 6 #[.agg (cellsF 256 (ints .i16 f))] w fun e w' => e = .returned (.bool true) ∧ Ext w w' := by
  have hb : ∀ i, i < 256 → -32768 ≤ f i ∧ f i ≤ 32767 := fun i hi => bounds_i16 (hf i hi)
  clear hf
  go_enter Tryd.func6, Tryd.ntmps6
  refine wp_region_then ?_
  refine wpList_boxA 28 (.tmp 0) _ rfl rfl rfl ?_
  simp only [Act.put, List.setIfInBounds_toArray, List.set]
  intro w1 bp hp x1 kp
  have X1 := Ext.trans (Ext.refl w) x1
  have z1 := x1.size
  have lp := kp.lt
  refine wpList_val (v := .bool false) rfl rfl ?_
  simp only [Act.put, List.setIfInBounds_toArray, List.set]
  refine wp_next ?_
  rcases forallB_or 256 (fun i => -(3329 : Int) ≤ f i ∧ f i ≤ 3329) with ⟨he, hall⟩ | he
  · have hI := IK_bd f hall
    have hF := FK_bd (IK f) hI 7 (by omega)
    have HC := fun w => Lib.hid (within_is f 3329 true w hb (by omega) he)
    have HE := Lib.hid (forth_is f)
    have HZ := Lib.hid hz
    have HR := Lib.hid hrd
    have HB := Lib.hid hb
    have HI := Lib.hid hI
    have HF := Lib.hid hF
    have HALL := Lib.hid hall
    clear hz hb hall he hF hI hrd
    go_wp2_with (first | (refine wpList_loadA arrK (.tmp 1) bp _ kp (size_cellsF _ _) rfl rfl rfl ?_; simp only [Act.put, List.setIfInBounds_toArray, List.set]) | (go_at_call 15; refine (HC _).out.mono ?_; rintro e w2 ⟨rfl, x2⟩; have X2 := Ext.trans X1 x2; replace kp := kp.ext x2; clear HC))
    refine wp_region_canon Ext [1, 2, 4, 5, 6, 8, 9] [0, 3, 1, 2, 4, 5, 6, 7, 10, 8, 9, 11, 12, 13] mixed Ext.refl Ext.trans (by decide) (by kernel_rfl) ?_
    intro w3 x3 _
    simp only [pickO, List.getElem?_cons_succ, List.getElem?_cons_zero]
    have X3 := Ext.trans X2 x3
    have z3 := x3.size
    replace kp := kp.ext x3
    refine wpC_loadA arrK (.tmp 1) bp _ (fun _ h => kp.ext h) (size_cellsF _ _) rfl rfl rfl rfl ?_
    simp only [Act.put, List.setIfInBounds_toArray, List.set]
    refine wpC_loadA arrK (.tmp 1) bp _ (fun _ h => kp.ext h) (size_cellsF _ _) rfl rfl rfl rfl ?_
    simp only [Act.put, List.setIfInBounds_toArray, List.set]
    refine wpC_callW (V := fun v w => v = .agg (cellsF 256 (ints .i64 (fun i => f i % 3329))) ∧ Ext w3 w) _ _ Tryd.func16 (by kernel_rfl) (by kernel_rfl) rfl rfl rfl rfl ((of_any f _ HB.out).mono fun _ _ ⟨h1, h2⟩ => ⟨_, h1, rfl, h2⟩) ?_
    rintro _ w4 ⟨rfl, x4⟩
    refine ⟨x4, ?_⟩
    simp only [Act.put, List.setIfInBounds_toArray, List.set]
    have X4 := Ext.trans X3 x4
    have z4 := x4.size
    replace kp := kp.ext x4
    refine wpC_callW (V := fun v w => v = .agg (cellsF 256 (ints .i64 (fun i => f i % 3329 * (65536 % 3329) % 3329))) ∧ Ext w4 w) _ _ Tryd.func23 (by kernel_rfl) (by kernel_rfl) rfl rfl rfl rfl ((times_any (fun i => f i % 3329) 65536 _ (fun i _ => by omega) (by omega)).mono fun _ _ ⟨h1, h2⟩ => ⟨_, h1, rfl, h2⟩) ?_
    rintro _ w5 ⟨rfl, x5⟩
    refine ⟨x5, ?_⟩
    simp only [Act.put, List.setIfInBounds_toArray, List.set]
    have X5 := Ext.trans X4 x5
    have z5 := x5.size
    replace kp := kp.ext x5
    refine wpC_callW (V := fun v w => v = .agg (cellsF 256 (ints .i16 (IK f))) ∧ Ext w5 w) _ _ Tryd.func19 (by kernel_rfl) (by kernel_rfl) rfl rfl rfl rfl ((kInvNTT_any f _ (HZ.out.ext X5) (HR.out.ext X5) HALL.out).mono fun _ _ ⟨h1, h2⟩ => ⟨_, h1, rfl, h2⟩) ?_
    rintro _ w6 ⟨rfl, x6⟩
    refine ⟨x6, ?_⟩
    simp only [Act.put, List.setIfInBounds_toArray, List.set]
    have X6 := Ext.trans X5 x6
    have z6 := x6.size
    replace kp := kp.ext x6
    refine wpC_callW (V := fun v w => v = .agg (cellsF 256 (ints .i16 (FK (IK f) 7))) ∧ Ext w6 w) _ _ Tryd.func13 (by kernel_rfl) (by kernel_rfl) rfl rfl rfl rfl ((kNTT_any (IK f) _ (HZ.out.ext X6) HI.out).mono fun _ _ ⟨h1, h2⟩ => ⟨_, h1, rfl, h2⟩) ?_
    rintro _ w7 ⟨rfl, x7⟩
    refine ⟨x7, ?_⟩
    simp only [Act.put, List.setIfInBounds_toArray, List.set]
    have X7 := Ext.trans X6 x7
    have z7 := x7.size
    replace kp := kp.ext x7
    refine wpC_callW (V := fun v w => v = .bool true ∧ Ext w7 w) _ _ Tryd.func18 (by kernel_rfl) (by kernel_rfl) rfl rfl rfl rfl ((is_any (fun i => f i % 3329 * (65536 % 3329) % 3329) (FK (IK f) 7) _ (fun i hi => by have h := HF.out i hi; omega) HE.out).mono fun _ _ ⟨h1, h2⟩ => ⟨_, h1, rfl, h2⟩) ?_
    rintro _ w8 ⟨rfl, x8⟩
    refine ⟨x8, ?_⟩
    simp only [Act.put, List.setIfInBounds_toArray, List.set]
    have X8 := Ext.trans X7 x8
    have z8 := x8.size
    replace kp := kp.ext x8
    refine wpC_move (.tmp 12) rfl rfl rfl ?_
    simp only [Act.put, List.setIfInBounds_toArray, List.set]
    refine wpC_val (.agg (zeros 256 .i16)) rfl rfl (fun _ _ => run_build0 intK _ zeroK rfl) ?_
    simp only [Act.put, List.setIfInBounds_toArray, List.set]
    refine wpC_callW (V := fun v w => v = .agg (cellsF 256 (ints .i16 (oneF))) ∧ Ext w8 w) _ _ Tryd.func20 (by kernel_rfl) (by kernel_rfl) rfl rfl rfl rfl ((one_any _).mono fun _ _ ⟨h1, h2⟩ => ⟨_, h1, rfl, h2⟩) ?_
    rintro _ w9 ⟨rfl, x9⟩
    refine ⟨x9, ?_⟩
    simp only [Act.put, List.setIfInBounds_toArray, List.set]
    have X9 := Ext.trans X8 x9
    have z9 := x9.size
    replace kp := kp.ext x9
    refine wpC_callW (V := fun v w => v = .agg (cellsF 256 (ints .i16 (FK oneF 7))) ∧ Ext w9 w) _ _ Tryd.func13 (by kernel_rfl) (by kernel_rfl) rfl rfl rfl rfl ((kNTT_any oneF _ (HZ.out.ext X9) (fun i _ => by unfold oneF; split <;> omega)).mono fun _ _ ⟨h1, h2⟩ => ⟨_, h1, rfl, h2⟩) ?_
    rintro _ w10 ⟨rfl, x10⟩
    refine ⟨x10, ?_⟩
    simp only [Act.put, List.setIfInBounds_toArray, List.set]
    have X10 := Ext.trans X9 x10
    have z10 := x10.size
    replace kp := kp.ext x10
    refine wpC_val (.bool true) rfl rfl (fun _ _ => (run_neq intK (.tmp 15) (.tmp 16) _ (FK oneF 7) (fun _ => 0) rfl rfl rfl).trans (by rw [ne_dec 0 (by omega) (by rw [(FK_one oneF rfl (fun i h => if_neg (by omega)) 7 (by omega)).1]; decide)])) ?_
    simp only [Act.put, List.setIfInBounds_toArray, List.set]
    refine wpC_pick (.tmp 13) (.tmp 17) (.const (.bool false)) true rfl rfl rfl rfl ?_
    simp only [Act.put, List.setIfInBounds_toArray, List.set]
    refine wpC_assign (.tmp 18) rfl rfl rfl ?_
    simp only [Act.put, List.setIfInBounds_toArray, List.set]
    refine wpC_nil ?_
    go_wp2_with fail
    go_ret
    exact ⟨rfl, X10⟩
  · have HC := fun w => Lib.hid (within_is f 3329 false w hb (by omega) he)
    clear hb he hz hrd
    go_wp2_with (first | (refine wpList_loadA arrK (.tmp 1) bp _ kp (size_cellsF _ _) rfl rfl rfl ?_; simp only [Act.put, List.setIfInBounds_toArray, List.set]) | (go_at_call 15; refine (HC _).out.mono ?_; rintro e w2 ⟨rfl, x2⟩; have X2 := Ext.trans X1 x2; replace kp := kp.ext x2; clear HC))
    go_ret
    exact ⟨rfl, X2⟩
end Go.Proofs.YtidgcjmgekeapaaDoor.fnKNTTForth
