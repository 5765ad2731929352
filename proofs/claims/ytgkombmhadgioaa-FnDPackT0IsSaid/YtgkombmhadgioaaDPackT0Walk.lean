/- laws.FnDPackT0Is returns true at every polynomial. -/
import Derived.Test.YtgkombmhadgioaaDPackT0b
import Derived.Test.YtgkombmhadgioaaDSpec
import Derived.Lib.Hide
namespace Go.Proofs.Ytgkombmhadgioaa.fnDPackT0Is
open Go Go.Proofs Go.RowKit Go.Kd
set_option linter.unusedSimpArgs false
set_option linter.unusedVariables false
set_option maxRecDepth 100000 in
set_option maxHeartbeats 1000000 in
theorem walk (f : Nat → Int) (hf : ∀ i, i < 256 → (Lit.int .u32 (f i)).wf = true) (w : World) :
    Calls Try.prog 14 #[.agg (cellsF 256 (ints .u32 f))] w fun e w' => e = .returned (.bool true) ∧ Ext w w' := by
  have hb : ∀ i, i < 256 → 0 ≤ f i ∧ f i ≤ 4294967295 := fun i hi => bounds_u32 (hf i hi)
  clear hf
  go_enter Try.func14, Try.ntmps14
  refine wp_region_then ?_
  refine wpList_boxA 27 (.tmp 0) _ rfl rfl rfl ?_
  simp only [Act.put, List.setIfInBounds_toArray, List.set]
  intro w1 bp hp x1 kp
  have X1 := Ext.trans (Ext.refl w) x1
  have z1 := x1.size
  have lp := kp.lt
  refine wpList_val (v := .bool false) rfl rfl ?_
  simp only [Act.put, List.setIfInBounds_toArray, List.set]
  refine wp_next ?_
  have hix : ∀ (j : Nat), j < 256 → ∀ wz, (Instr.index 27 (.agg (cellsF 256 (ints .u32 f))) (.int .i64 (j : Int))).run Try.prog wz = .ok (.int .u32 (f j)) wz := fun j hj wz => run_index intK _ j hj
  have HX := Lib.hid X1
  go_wp2_with (refine wpList_loadA arrK (.tmp 1) bp _ kp (size_cellsF _ _) rfl rfl rfl ?_; simp only [Act.put, List.setIfInBounds_toArray, List.set])
  go_loop [10] (fun i => ∃ j : Nat, j ≤ 256 ∧ i = .int .i64 j ∧ Hid (∀ i, i < j → 8376322 ≤ f i ∧ f i ≤ 8384513)) (fun i => 256 - (intOf i).toNat)
  case atStart => exact ⟨0, by omega, rfl, Lib.hid (fun i hi => by omega)⟩
  case round =>
    obtain ⟨j, hj, rfl, hall⟩ := hrel
    by_cases hjl : j < 256
    · have h1 := hix j hjl
      obtain ⟨q1, q2⟩ := hb j hjl
      clear hix hb
      by_cases c1 : f j ≤ 8376321
      · go_wp2_with fail
        go_ret
        exact ⟨rfl, HX.out⟩
      · by_cases c2 : 8384513 < f j
        · go_wp2_with fail
          go_ret
          exact ⟨rfl, HX.out⟩
        · go_wp2_with fail
          go_round
          case rel => exact ⟨j + 1, by omega, by go_num, Lib.hid fun i hi => by
            by_cases e : i = j
            · subst e; omega
            · exact hall.out i (by omega)⟩
          case measure => simp [intOf]; omega
    · have hj' : j = 256 := by omega
      subst hj'
      have hbq := hall.out
      have HP := fun w => Lib.hid (dPackT0_any f w hbq)
      have HU := fun b c w h => Lib.hid (dUnpackT0_any b c (enc (lowT0 f) 13) f w h (fun i _ => enc_bd _ 13 i) (v0_0 f hbq) (v0_1 f hbq) (v0_2 f hbq) (v0_3 f hbq) (v0_4 f hbq) (v0_5 f hbq) (v0_6 f hbq) (v0_7 f hbq))
      have HB := Lib.hid hb
      clear hix hb hbq hall
      go_wp2_with (first | (refine wpList_loadA arrK (.tmp 1) bp _ kp (size_cellsF _ _) rfl rfl rfl ?_; simp only [Act.put, List.setIfInBounds_toArray, List.set]) | (go_at_call 41; refine (HP _).out.mono ?_; rintro e w3 ⟨v, rfl, bc, rfl, kc, x3⟩; have X3 := Ext.trans X1 x3; replace kp := kp.ext x3) | (go_at_call 42; refine (HU bc _ _ kc).out.mono ?_; rintro e w4 ⟨rfl, x4⟩; have X4 := Ext.trans X3 x4; replace kp := kp.ext x4; replace kc := kc.ext x4) | (have lp4 := kp.lt; have lc4 := kc.1; refine wpList_allocA 27 _ _ zeroK rfl rfl ?_; simp only [Act.put, List.setIfInBounds_toArray, List.set]; intro w5 bg hg x5 kg; have X5 := Ext.trans X4 x5; replace kp := kp.ext x5; replace kc := kc.ext x5; have zz := X4.size) | (refine wpList_storeA arrK (.tmp 7) (.tmp 29) bg _ _ kg (size_cellsF _ _) (size_cellsF _ _) (one_cellsF _ _ _) rfl rfl rfl rfl ?_; simp only [Act.put]; clear kg; intro w6 o6 kg; have X6 := o6.ext X5 (by omega); replace kp := o6.blk (by omega) kp))
      refine wp_region_canon Ext [8, 10] [0, 1, 2, 3, 4, 5, 6, 7, 9, 8, 10, 11, 12] mixed Ext.refl Ext.trans (by decide) (by kernel_rfl) ?_
      intro w7 x7 _
      simp only [pickO, List.getElem?_cons_succ, List.getElem?_cons_zero]
      have X7 := Ext.trans X6 x7
      have z7 := x7.size
      replace kp := kp.ext x7
      replace kg := kg.ext x7
      refine wpC_move (.tmp 8) rfl rfl rfl ?_
      simp only [Act.put, List.setIfInBounds_toArray, List.set]
      refine wpC_move (.tmp 31) rfl rfl rfl ?_
      simp only [Act.put, List.setIfInBounds_toArray, List.set]
      refine wpC_move (.tmp 6) rfl rfl rfl ?_
      simp only [Act.put, List.setIfInBounds_toArray, List.set]
      refine wpC_val (.int .i64 416) rfl rfl (fun _ _ => by go_simp) ?_
      simp only [Act.put, List.setIfInBounds_toArray, List.set]
      refine wpC_val (.bool true) rfl rfl (fun _ _ => by go_simp) ?_
      simp only [Act.put, List.setIfInBounds_toArray, List.set]
      refine wpC_pick (.tmp 32) (.tmp 35) (.const (.bool false)) true rfl rfl rfl rfl ?_
      simp only [Act.put, List.setIfInBounds_toArray, List.set]
      refine wpC_move (.tmp 36) rfl rfl rfl ?_
      simp only [Act.put, List.setIfInBounds_toArray, List.set]
      refine wpC_loadA arrK (.tmp 1) bp _ (fun _ h => kp.ext h) (size_cellsF _ _) rfl rfl rfl rfl ?_
      simp only [Act.put, List.setIfInBounds_toArray, List.set]
      refine wpC_loadA arrK (.tmp 7) bg _ (fun _ h => kg.ext h) (size_cellsF _ _) rfl rfl rfl rfl ?_
      simp only [Act.put, List.setIfInBounds_toArray, List.set]
      refine wpC_callW (V := fun v w => v = .agg (cellsF 256 (ints .i64 (fun i => f i % 8380417))) ∧ Ext w7 w) _ _ Try.func21 (by kernel_rfl) (by kernel_rfl) rfl rfl rfl rfl ((of_any f _ HB.out).mono fun _ _ ⟨h1, h2⟩ => ⟨_, h1, rfl, h2⟩) ?_
      rintro _ w8 ⟨rfl, x8⟩
      refine ⟨x8, ?_⟩
      simp only [Act.put, List.setIfInBounds_toArray, List.set]
      have X8 := Ext.trans X7 x8
      have z8 := x8.size
      replace kp := kp.ext x8
      replace kg := kg.ext x8
      refine wpC_callW (V := fun v w => v = .bool true ∧ Ext w8 w) _ _ Try.func22 (by kernel_rfl) (by kernel_rfl) rfl rfl rfl rfl ((is_any _ f _ HB.out (fun _ _ => rfl)).mono fun _ _ ⟨h1, h2⟩ => ⟨_, h1, rfl, h2⟩) ?_
      rintro _ w9 ⟨rfl, x9⟩
      refine ⟨x9, ?_⟩
      simp only [Act.put, List.setIfInBounds_toArray, List.set]
      have X9 := Ext.trans X8 x9
      have z9 := x9.size
      replace kp := kp.ext x9
      replace kg := kg.ext x9
      refine wpC_pick (.tmp 37) (.tmp 41) (.const (.bool false)) true rfl rfl rfl rfl ?_
      simp only [Act.put, List.setIfInBounds_toArray, List.set]
      refine wpC_assign (.tmp 42) rfl rfl rfl ?_
      simp only [Act.put, List.setIfInBounds_toArray, List.set]
      refine wpC_nil ?_
      go_wp2_with fail
      go_ret
      exact ⟨rfl, X9⟩
end Go.Proofs.Ytgkombmhadgioaa.fnDPackT0Is
