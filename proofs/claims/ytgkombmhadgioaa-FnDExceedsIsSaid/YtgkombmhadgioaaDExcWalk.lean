/- laws.FnDExceedsIs returns true at every polynomial and bound. -/
import Derived.Test.YtgkombmhadgioaaDExc
import Derived.Test.YtgkombmhadgioaaDSpec
import Derived.Lib.Hide
namespace Go.Proofs.Ytgkombmhadgioaa.fnDExceedsIs
open Go Go.Proofs Go.RowKit Go.Kd
def fiveF : Nat → Int := fun i => if i = 0 then 5 else 0
theorem five_eq : (cellsF 256 fun i => if i = 0 then Value.int .u32 5 else ints .u32 (fun _ => 0) i) = cellsF 256 (ints .u32 fiveF) :=
  cellsF_congr fun i hi => by unfold ints fiveF; by_cases h : i = 0 <;> simp [h]
theorem five_bd : ∀ i, i < 256 → 0 ≤ fiveF i ∧ fiveF i < 8380417 := fun i _ => by unfold fiveF; split <;> omega
theorem five_no : (forallB 256 fun i => norm (fiveF i) < 5) = false := forallB_false 0 (by omega) (by simp [fiveF, norm])
theorem forallB_false_more {j : Nat} {p : Nat → Prop} (h : forallB j p = false) : forallB (j + 1) p = false := by
  have h' : ¬ ∀ i, i < j → p i := @of_decide_eq_false _ (Classical.propDecidable _) h
  exact @decide_eq_false _ (Classical.propDecidable _) fun e => h' fun i hi => e i (by omega)
set_option maxRecDepth 100000 in
set_option maxHeartbeats 1000000 in
theorem walk (f : Nat → Int) (hf : ∀ i, i < 256 → (Lit.int .u32 (f i)).wf = true) (n : Int) (hn : (Lit.int .u32 n).wf = true) (w : World) :
    Calls Try.prog 7 #[.agg (cellsF 256 (ints .u32 f)), .int .u32 n] w fun e w' => e = .returned (.bool true) ∧ Ext w w' := by
  have hb : ∀ i, i < 256 → 0 ≤ f i ∧ f i ≤ 4294967295 := fun i hi => bounds_u32 (hf i hi)
  clear hf
  obtain ⟨n1, n2⟩ := bounds_u32 hn
  clear hn
  go_enter Try.func7, Try.ntmps7
  refine wp_region_then ?_
  refine wpList_boxA 27 (.tmp 0) _ rfl rfl rfl ?_
  simp only [Act.put, List.setIfInBounds_toArray, List.set]
  intro w1 bp hp x1 kp
  have X1 := Ext.trans (Ext.refl w) x1
  have z1 := x1.size
  have lp := kp.lt
  refine wpList_val (v := .bool false) rfl rfl ?_
  simp only [Act.put, List.setIfInBounds_toArray, List.set]
  refine wp_next ?_
  rcases forallB_or 256 (fun i => f i < 8380417) with ⟨he, hall⟩ | he
  · have HC := fun w => Lib.hid (below_is f 8380417 true w hb (by omega) he)
    clear he
    go_wp2_with (first | (refine wpList_loadA arrK (.tmp 2) bp _ kp (size_cellsF _ _) rfl rfl rfl ?_; simp only [Act.put, List.setIfInBounds_toArray, List.set]))
    refine (HC _).out.mono ?_
    rintro e w2 ⟨rfl, x2⟩
    have X2 := Ext.trans X1 x2
    have z2 := x2.size
    replace kp := kp.ext x2
    clear HC
    by_cases c1 : n < 1
    · go_wp2_with fail
      go_ret
      exact ⟨rfl, X2⟩
    by_cases c2 : 1047552 < n
    · go_wp2_with fail
      go_ret
      exact ⟨rfl, X2⟩
    have hbq : ∀ i, i < 256 → 0 ≤ f i ∧ f i < 8380417 := fun i hi => ⟨(hb i hi).1, hall i hi⟩
    clear hb hall
    have hix : ∀ (j : Nat), j < 256 → ∀ wz, (Instr.index 27 (.agg (cellsF 256 (ints .u32 f))) (.int .i64 (j : Int))).run Try.prog wz = .ok (.int .u32 (f j)) wz := fun j hj wz => run_index intK _ j hj
    have HX := Lib.hid X2
    clear X2 X1
    go_wp2_with (first | (refine wpList_loadA arrK (.tmp 2) bp _ kp (size_cellsF _ _) rfl rfl rfl ?_; simp only [Act.put, List.setIfInBounds_toArray, List.set]))
    go_loop [20, 5] (fun i v => ∃ j : Nat, j ≤ 256 ∧ i = .int .i64 j ∧ v = .bool (!(forallB j fun i => norm (f i) < n))) (fun i _ => 256 - (intOf i).toNat)
    case atStart => exact ⟨0, by omega, rfl, by rw [forallB_true (fun i hi => by omega)]; rfl⟩
    case round =>
      obtain ⟨j, hj, rfl, rfl⟩ := hrel
      by_cases hjl : j < 256
      · have h1 := hix j hjl
        obtain ⟨q1, q2⟩ := hbq j hjl
        clear hix
        rcases forallB_or j (fun i => norm (f i) < n) with ⟨hv, hall⟩ | hv
        · rw [hv]
          have hall := Lib.hid hall
          have hnm : norm (f j) = if f j ≤ 8380417 - f j then f j else 8380417 - f j := rfl
          have HQ := Lib.hid hbq
          clear hbq hv
          have hnx : (forallB (j + 1) fun i => norm (f i) < n) = decide (norm (f j) < n) := by
            by_cases c : norm (f j) < n
            · rw [forallB_true (fun i hi => by by_cases e : i = j; (· subst e; exact c); exact hall.out i (by omega)), decide_eq_true c]
            · rw [forallB_false j (by omega) c, decide_eq_false c]
          have HN := Lib.hid hnx
          clear hnx
          by_cases cm : ¬ (8380417 - f j < f j)
          · rw [if_pos (by omega)] at hnm
            have HM := Lib.hid hnm
            clear hnm
            by_cases cn : n ≤ f j
            · go_wp2_with fail
              go_round
              case rel => exact ⟨j + 1, by omega, by go_num, by rw [HN.out, HM.out, decide_eq_false (by omega)]; rfl⟩
              case measure => simp [intOf]; omega
            · go_wp2_with fail
              go_round
              case rel => exact ⟨j + 1, by omega, by go_num, by rw [HN.out, HM.out, decide_eq_true (by omega)]; rfl⟩
              case measure => simp [intOf]; omega
          · rw [if_neg (by omega)] at hnm
            have cm := Decidable.not_not.1 cm
            have HM := Lib.hid hnm
            clear hnm
            by_cases cn : n ≤ 8380417 - f j
            · go_wp2_with fail
              go_round
              case rel => exact ⟨j + 1, by omega, by go_num, by rw [HN.out, HM.out, decide_eq_false (by omega)]; rfl⟩
              case measure => simp [intOf]; omega
            · go_wp2_with fail
              go_round
              case rel => exact ⟨j + 1, by omega, by go_num, by rw [HN.out, HM.out, decide_eq_true (by omega)]; rfl⟩
              case measure => simp [intOf]; omega
        · rw [hv]
          have HV := Lib.hid hv
          clear hv
          go_wp2_with fail
          go_round
          case rel => exact ⟨j + 1, by omega, by go_num, by rw [forallB_false_more HV.out]; rfl⟩
          case measure => simp [intOf]; omega
      · have hj' : j = 256 := by omega
        subst hj'
        have HE := fun w => Lib.hid (dExceeds_any f n w hbq (by omega))
        have H5 := fun w => Lib.hid (dExceeds_any fiveF 5 w five_bd (by omega))
        simp only [five_no] at H5
        clear hix hbq
        generalize (!forallB 256 fun i => norm (f i) < n) = t at HE ⊢
        go_wp2_with (first | (refine wpList_loadA arrK (.tmp 2) bp _ kp (size_cellsF _ _) rfl rfl rfl ?_; simp only [Act.put, List.setIfInBounds_toArray, List.set]) | (refine wpList_build1 intK _ 0 (by omega) (.const (.int .u32 5)) 5 rfl zeroK rfl rfl ?_; rw [five_eq]; simp only [Act.put, List.setIfInBounds_toArray, List.set]))
        refine (HE _).out.mono ?_
        rintro e w3 ⟨rfl, x3⟩
        have HX := Lib.hid (HX.out.trans x3)
        clear HE x3
        cases t
        all_goals
          go_wp2_with (first | (refine wpList_build1 intK _ 0 (by omega) (.const (.int .u32 5)) 5 rfl zeroK rfl rfl ?_; rw [five_eq]; simp only [Act.put, List.setIfInBounds_toArray, List.set]))
          refine (H5 _).out.mono ?_
          rintro e w4 ⟨rfl, x4⟩
          have HX := Lib.hid (HX.out.trans x4)
          clear H5 x4
          go_wp2_with fail
          go_ret
          exact ⟨rfl, HX.out⟩
  · have HC := fun w => Lib.hid (below_is f 8380417 false w hb (by omega) he)
    clear he
    go_wp2_with (first | (refine wpList_loadA arrK (.tmp 2) bp _ kp (size_cellsF _ _) rfl rfl rfl ?_; simp only [Act.put, List.setIfInBounds_toArray, List.set]))
    refine (HC _).out.mono ?_
    rintro e w2 ⟨rfl, x2⟩
    have X2 := Ext.trans X1 x2
    have z2 := x2.size
    replace kp := kp.ext x2
    clear HC
    clear hb
    go_wp2_with fail
    go_ret
    exact ⟨rfl, X2⟩
end Go.Proofs.Ytgkombmhadgioaa.fnDExceedsIs
