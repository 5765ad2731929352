/- laws.FnDNormalizeIs returns true at every polynomial. -/
import Derived.Test.YtgkombmhadgioaaDMap
import Derived.Test.YtgkombmhadgioaaDSpec
namespace Go.Proofs.Ytgkombmhadgioaa.fnDNormalizeIs
open Go Go.Proofs Go.RowKit Go.Kd
set_option maxRecDepth 100000 in
set_option maxHeartbeats 1000000 in
theorem walk (f : Nat → Int) (hf : ∀ i, i < 256 → (Lit.int .u32 (f i)).wf = true) (w : World) :
    Calls Try.prog 10 #[.agg (cellsF 256 (ints .u32 f))] w fun e w' => e = .returned (.bool true) ∧ Ext w w' := by
  have hb : ∀ i, i < 256 → 0 ≤ f i ∧ f i ≤ 4294967295 := fun i hi => bounds_u32 (hf i hi)
  clear hf
  have n1 : ∀ i, i < 256 → 0 ≤ f i % 8380417 ∧ f i % 8380417 < 8380417 := fun i _ => by omega
  have n2 : ∀ i, i < 256 → 0 ≤ f i % 8380417 ∧ f i % 8380417 ≤ 4294967295 := fun i _ => by omega
  have o1 : ∀ i, i < 256 → 0 ≤ oneF i ∧ oneF i ≤ 4294967295 := fun i hi => by have := one_bd i hi; omega
  have o2 : ∀ i, i < 256 → oneF i % 8380417 = oneF i := fun i hi => by have := one_bd i hi; omega
  go_enter Try.func10, Try.ntmps10
  refine wp_region_then ?_
  refine wpList_boxA 27 (.tmp 0) _ rfl rfl rfl ?_
  simp only [Act.put, List.setIfInBounds_toArray, List.set]
  intro w1 bp hp x1 kp
  have X1 := Ext.trans (Ext.refl w) x1
  have z1 := x1.size
  have lp := kp.lt
  refine wpList_val (v := .bool false) rfl rfl ?_
  simp only [Act.put, List.setIfInBounds_toArray, List.set]
  refine wp_next (wp_region_then ?_)
  refine wpList_loadA arrK (.tmp 1) bp _ kp (size_cellsF _ _) rfl rfl rfl ?_
  simp only [Act.put, List.setIfInBounds_toArray, List.set]
  refine wpList_call0 _ _ Try.func32 (by kernel_rfl) (by kernel_rfl) rfl rfl (dNormalize_any f _ hb) ?_
  simp only [Act.put, List.setIfInBounds_toArray, List.set]
  intro w2 x2
  have X2 := Ext.trans X1 x2
  have z2 := x2.size
  replace kp := kp.ext x2
  refine wpList_allocA 27 _ _ zeroK rfl rfl ?_
  simp only [Act.put, List.setIfInBounds_toArray, List.set]
  intro w3 bg hg x3 kg
  have X3 := Ext.trans X2 x3
  have z3 := x3.size
  replace kp := kp.ext x3
  have lg := kg.lt
  refine wpList_storeA arrK (.tmp 3) (.tmp 5) bg _ _ kg (size_cellsF _ _) (size_cellsF _ _) (one_cellsF _ _ _) rfl rfl rfl rfl ?_
  simp only [Act.put]
  clear kg
  intro w4 o4 kg
  have X4 := o4.ext X3 (by omega)
  have z4 := o4.size
  replace kp := o4.blk (by omega) kp
  refine wp_next ?_
  go_wp2_with fail
  refine wp_region_det mixed (by kernel_rfl) ?_
  refine wpDet_loadA arrK (.tmp 3) bg _ kg (size_cellsF _ _) rfl rfl rfl ?_
  simp only [Act.put, List.setIfInBounds_toArray, List.set]
  refine wpDet_call (.bool true) _ _ Try.func16 (by kernel_rfl) (by kernel_rfl) rfl rfl (fun w _ => below_yes _ 8380417 w n1 (by omega)) ?_
  simp only [Act.put, List.setIfInBounds_toArray, List.set]
  refine wpDet_val (.bool false) rfl (fun _ _ => rfl) ?_
  simp only [Act.put, List.setIfInBounds_toArray, List.set]
  refine wpDet_move (.tmp 8) rfl rfl ?_
  simp only [Act.put, List.setIfInBounds_toArray, List.set]
  refine wpDet_loadA arrK (.tmp 1) bp _ kp (size_cellsF _ _) rfl rfl rfl ?_
  simp only [Act.put, List.setIfInBounds_toArray, List.set]
  refine wpDet_call (.agg (cellsF 256 (ints .i64 (fun i => f i % 8380417)))) _ _ Try.func21 (by kernel_rfl) (by kernel_rfl) rfl rfl (fun w _ => of_any f w hb) ?_
  simp only [Act.put, List.setIfInBounds_toArray, List.set]
  refine wpDet_loadA arrK (.tmp 3) bg _ kg (size_cellsF _ _) rfl rfl rfl ?_
  simp only [Act.put, List.setIfInBounds_toArray, List.set]
  refine wpDet_call (.bool true) _ _ Try.func22 (by kernel_rfl) (by kernel_rfl) rfl rfl (fun w _ => is_any _ _ w n2 (fun i _ => by omega)) ?_
  simp only [Act.put, List.setIfInBounds_toArray, List.set]
  refine wpDet_val (.bool false) rfl (fun _ _ => rfl) ?_
  simp only [Act.put, List.setIfInBounds_toArray, List.set]
  refine wpDet_pick (.tmp 9) (.const (.bool true)) (.tmp 14) false rfl rfl rfl ?_
  simp only [Act.put, List.setIfInBounds_toArray, List.set]
  intro w5 x5
  have X5 := Ext.trans X4 x5
  have z5 := x5.size
  replace kp := kp.ext x5
  replace kg := kg.ext x5
  rcases forallB_or 256 (fun i => f i < 16760834) with ⟨he, hall⟩ | he
  · have hc : ∀ w, Calls Try.prog 16 #[.agg (cellsF 256 (ints .u32 f)), .int .u32 16760834] w fun e w' => e = .returned (.bool true) ∧ Ext w w' := fun w => (below_any f 16760834 w hb (by omega)).mono fun _ _ ⟨h1, h2⟩ => ⟨by rw [h1, he], h2⟩
    clear he
    go_wp2_with fail
    refine wp_region_det mixed (by kernel_rfl) ?_
    refine wpDet_loadA arrK (.tmp 1) bp _ kp (size_cellsF _ _) rfl rfl rfl ?_
    simp only [Act.put, List.setIfInBounds_toArray, List.set]
    refine wpDet_call (.bool true) _ _ Try.func16 (by kernel_rfl) (by kernel_rfl) rfl rfl (fun w _ => hc w) ?_
    simp only [Act.put, List.setIfInBounds_toArray, List.set]
    refine wpDet_val (.bool false) rfl (fun _ _ => rfl) ?_
    simp only [Act.put, List.setIfInBounds_toArray, List.set]
    refine wpDet_move (.tmp 18) rfl rfl ?_
    simp only [Act.put, List.setIfInBounds_toArray, List.set]
    refine wpDet_loadA arrK (.tmp 1) bp _ kp (size_cellsF _ _) rfl rfl rfl ?_
    simp only [Act.put, List.setIfInBounds_toArray, List.set]
    refine wpDet_call (.agg (cellsF 256 (ints .u32 (fun i => f i % 8380417)))) _ _ Try.func33 (by kernel_rfl) (by kernel_rfl) rfl rfl (fun w _ => dNormalize2_any f w (fun i hi => ⟨(hb i hi).1, hall i hi⟩)) ?_
    simp only [Act.put, List.setIfInBounds_toArray, List.set]
    refine wpDet_loadA arrK (.tmp 3) bg _ kg (size_cellsF _ _) rfl rfl rfl ?_
    simp only [Act.put, List.setIfInBounds_toArray, List.set]
    refine wpDet_eql intK (.tmp 21) (.tmp 22) _ (fun i => f i % 8380417) (fun i => f i % 8380417) true (eq_dec fun _ _ => rfl) rfl rfl rfl rfl ?_
    simp only [Act.put, List.setIfInBounds_toArray, List.set]
    refine wpDet_move (.tmp 23) rfl rfl ?_
    simp only [Act.put, List.setIfInBounds_toArray, List.set]
    refine wpDet_call (.agg (cellsF 256 (ints .u32 oneF))) _ _ Try.func18 (by kernel_rfl) (by kernel_rfl) rfl rfl (fun w _ => unit_any w) ?_
    simp only [Act.put, List.setIfInBounds_toArray, List.set]
    refine wpDet_call (.agg (cellsF 256 (ints .u32 (fun i => oneF i % 8380417)))) _ _ Try.func32 (by kernel_rfl) (by kernel_rfl) rfl rfl (fun w _ => dNormalize_any oneF w o1) ?_
    simp only [Act.put, List.setIfInBounds_toArray, List.set]
    refine wpDet_call (.agg (cellsF 256 (ints .u32 oneF))) _ _ Try.func18 (by kernel_rfl) (by kernel_rfl) rfl rfl (fun w _ => unit_any w) ?_
    simp only [Act.put, List.setIfInBounds_toArray, List.set]
    refine wpDet_eql intK (.tmp 26) (.tmp 27) _ (fun i => oneF i % 8380417) (oneF) true (eq_dec o2) rfl rfl rfl rfl ?_
    simp only [Act.put, List.setIfInBounds_toArray, List.set]
    refine wpDet_pick (.tmp 24) (.tmp 28) (.const (.bool false)) true rfl rfl rfl ?_
    simp only [Act.put, List.setIfInBounds_toArray, List.set]
    refine wpDet_pick (.tmp 19) (.const (.bool true)) (.tmp 29) false rfl rfl rfl ?_
    simp only [Act.put, List.setIfInBounds_toArray, List.set]
    refine wpDet_assign (.tmp 30) rfl rfl ?_
    simp only [Act.put, List.setIfInBounds_toArray, List.set]
    intro w6 x6
    have X6 := Ext.trans X5 x6
    have z6 := x6.size
    replace kp := kp.ext x6
    replace kg := kg.ext x6
    go_wp2_with fail
    go_ret
    exact ⟨rfl, X6⟩
  · have hc : ∀ w, Calls Try.prog 16 #[.agg (cellsF 256 (ints .u32 f)), .int .u32 16760834] w fun e w' => e = .returned (.bool false) ∧ Ext w w' := fun w => (below_any f 16760834 w hb (by omega)).mono fun _ _ ⟨h1, h2⟩ => ⟨by rw [h1, he], h2⟩
    clear he
    go_wp2_with fail
    refine wp_region_det mixed (by kernel_rfl) ?_
    refine wpDet_loadA arrK (.tmp 1) bp _ kp (size_cellsF _ _) rfl rfl rfl ?_
    simp only [Act.put, List.setIfInBounds_toArray, List.set]
    refine wpDet_call (.bool false) _ _ Try.func16 (by kernel_rfl) (by kernel_rfl) rfl rfl (fun w _ => hc w) ?_
    simp only [Act.put, List.setIfInBounds_toArray, List.set]
    refine wpDet_val (.bool true) rfl (fun _ _ => rfl) ?_
    simp only [Act.put, List.setIfInBounds_toArray, List.set]
    refine wpDet_move (.tmp 18) rfl rfl ?_
    simp only [Act.put, List.setIfInBounds_toArray, List.set]
    refine wpDet_skip rfl ?_
    simp only [Act.put, List.setIfInBounds_toArray, List.set]
    refine wpDet_skip rfl ?_
    simp only [Act.put, List.setIfInBounds_toArray, List.set]
    refine wpDet_skip rfl ?_
    simp only [Act.put, List.setIfInBounds_toArray, List.set]
    refine wpDet_skip rfl ?_
    simp only [Act.put, List.setIfInBounds_toArray, List.set]
    refine wpDet_skip rfl ?_
    simp only [Act.put, List.setIfInBounds_toArray, List.set]
    refine wpDet_skip rfl ?_
    simp only [Act.put, List.setIfInBounds_toArray, List.set]
    refine wpDet_skip rfl ?_
    simp only [Act.put, List.setIfInBounds_toArray, List.set]
    refine wpDet_skip rfl ?_
    simp only [Act.put, List.setIfInBounds_toArray, List.set]
    refine wpDet_skip rfl ?_
    simp only [Act.put, List.setIfInBounds_toArray, List.set]
    refine wpDet_skip rfl ?_
    simp only [Act.put, List.setIfInBounds_toArray, List.set]
    refine wpDet_pick (.tmp 19) (.const (.bool true)) (.tmp 29) true rfl rfl rfl ?_
    simp only [Act.put, List.setIfInBounds_toArray, List.set]
    refine wpDet_assign (.tmp 30) rfl rfl ?_
    simp only [Act.put, List.setIfInBounds_toArray, List.set]
    intro w6 x6
    have X6 := Ext.trans X5 x6
    have z6 := x6.size
    replace kp := kp.ext x6
    replace kg := kg.ext x6
    go_wp2_with fail
    go_ret
    exact ⟨rfl, X6⟩
end Go.Proofs.Ytgkombmhadgioaa.fnDNormalizeIs
