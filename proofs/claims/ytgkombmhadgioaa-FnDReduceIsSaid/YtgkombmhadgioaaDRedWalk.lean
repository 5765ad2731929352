/- laws.FnDReduceIs returns true at every polynomial. -/
import Derived.Test.YtgkombmhadgioaaDMap
import Derived.Test.YtgkombmhadgioaaDSpec
import Derived.Test.YtgkombmhadgioaaDOne
namespace Go.Proofs.Ytgkombmhadgioaa.fnDReduceIs
open Go Go.Proofs Go.RowKit Go.Kd
set_option maxRecDepth 100000 in
set_option maxHeartbeats 1000000 in
theorem walk (f : Nat → Int) (hf : ∀ i, i < 256 → (Lit.int .u32 (f i)).wf = true) (w : World) :
    Calls Try.prog 5 #[.agg (cellsF 256 (ints .u32 f))] w fun e w' => e = .returned (.bool true) ∧ Ext w w' := by
  have hb : ∀ i, i < 256 → 0 ≤ f i ∧ f i ≤ 4294967295 := fun i hi => bounds_u32 (hf i hi)
  clear hf
  have n1 : ∀ i, i < 256 → 0 ≤ red2q (f i) ∧ red2q (f i) < 16760834 := fun i hi => red2q_bd (f i) (hb i hi)
  have n2 : ∀ i, i < 256 → 0 ≤ red2q (f i) ∧ red2q (f i) ≤ 4294967295 := fun i hi => by have := n1 i hi; omega
  go_enter Try.func5, Try.ntmps5
  refine wp_region_then ?_
  refine wpList_boxA 27 (.tmp 0) _ rfl rfl rfl ?_
  simp only [Act.put, List.setIfInBounds_toArray, List.set]
  intro w1 bp hp x1 kp
  have X1 := Ext.trans (Ext.refl w) x1
  have z1 := x1.size
  have lp := kp.lt
  refine wpList_val (v := .bool false) rfl rfl ?_
  simp only [Act.put, List.setIfInBounds_toArray, List.set]
  refine wp_next (wp_region_then ?_)
  refine wpList_loadA arrK (.tmp 1) bp _ kp (size_cellsF _ _) rfl rfl rfl ?_
  simp only [Act.put, List.setIfInBounds_toArray, List.set]
  refine wpList_call0 _ _ Try.func19 (by kernel_rfl) (by kernel_rfl) rfl rfl (dReduce_any f _ hb) ?_
  simp only [Act.put, List.setIfInBounds_toArray, List.set]
  intro w2 x2
  have X2 := Ext.trans X1 x2
  have z2 := x2.size
  replace kp := kp.ext x2
  refine wpList_allocA 27 _ _ zeroK rfl rfl ?_
  simp only [Act.put, List.setIfInBounds_toArray, List.set]
  intro w3 bg hg x3 kg
  have X3 := Ext.trans X2 x3
  have z3 := x3.size
  replace kp := kp.ext x3
  have lg := kg.lt
  refine wpList_storeA arrK (.tmp 3) (.tmp 7) bg _ _ kg (size_cellsF _ _) (size_cellsF _ _) (one_cellsF _ _ _) rfl rfl rfl rfl ?_
  simp only [Act.put]
  clear kg
  intro w4 o4 kg
  have X4 := o4.ext X3 (by omega)
  have z4 := o4.size
  replace kp := o4.blk (by omega) kp
  refine wp_next (wp_seq (wp_region_then ?_))
  refine wpList_loadA arrK (.tmp 3) bg _ kg (size_cellsF _ _) rfl rfl rfl ?_
  simp only [Act.put, List.setIfInBounds_toArray, List.set]
  refine wpList_val (v := .int .i64 0) rfl rfl ?_
  simp only [Act.put, List.setIfInBounds_toArray, List.set]
  refine wp_next ?_
  have hix : ∀ (j : Nat), j < 256 → ∀ wz, (Instr.index 27 (.agg (cellsF 256 (ints .u32 (fun i => red2q (f i))))) (.int .i64 (j : Int))).run Try.prog wz = .ok (.int .u32 (red2q (f j))) wz := fun j hj wz => run_index intK _ j hj
  have HX := Lib.hid X4
  clear X1 X2 X3 X4
  go_wp2_with fail
  go_loop [9] (fun i => ∃ j : Nat, j ≤ 256 ∧ i = .int .i64 j) (fun i => 256 - (intOf i).toNat)
  case atStart => exact ⟨0, by omega, rfl⟩
  case round =>
    obtain ⟨j, hj, rfl⟩ := hrel
    by_cases hjl : j < 256
    · have h1 := hix j hjl
      obtain ⟨q1, q2⟩ := hb j hjl
      have ca : w4.cell? ⟨bp, j, none⟩ = some (.int .u32 (f j)) := kp.cell hjl
      clear hix hb n1 n2
      go_wp2_with (go_at_call 20; refine (dReduceOne_any _ _ ⟨q1, q2⟩).mono ?_; rintro e w' ⟨rfl, rfl⟩)
      go_round
      case rel => exact ⟨j + 1, by omega, by go_num⟩
      case measure => simp [intOf]; omega
    · have hj' : j = 256 := by omega
      subst hj'
      have HN := Lib.hid n1
      have HM := Lib.hid n2
      have HB := Lib.hid hb
      clear hix n1 n2 hb
      go_wp2_with fail
      refine wp_region_det mixed (by kernel_rfl) ?_
      refine wpDet_loadA arrK (.tmp 3) bg _ kg (size_cellsF _ _) rfl rfl rfl ?_
      simp only [Act.put, List.setIfInBounds_toArray, List.set]
      refine wpDet_call (.bool true) _ _ Try.func16 (by kernel_rfl) (by kernel_rfl) rfl rfl (fun w _ => below_yes _ 16760834 w HN.out (by omega)) ?_
      simp only [Act.put, List.setIfInBounds_toArray, List.set]
      refine wpDet_move (.tmp 21) rfl rfl ?_
      simp only [Act.put, List.setIfInBounds_toArray, List.set]
      refine wpDet_loadA arrK (.tmp 1) bp _ kp (size_cellsF _ _) rfl rfl rfl ?_
      simp only [Act.put, List.setIfInBounds_toArray, List.set]
      refine wpDet_call (.agg (cellsF 256 (ints .i64 (fun i => f i % 8380417)))) _ _ Try.func21 (by kernel_rfl) (by kernel_rfl) rfl rfl (fun w _ => of_any f w HB.out) ?_
      simp only [Act.put, List.setIfInBounds_toArray, List.set]
      refine wpDet_loadA arrK (.tmp 3) bg _ kg (size_cellsF _ _) rfl rfl rfl ?_
      simp only [Act.put, List.setIfInBounds_toArray, List.set]
      refine wpDet_call (.bool true) _ _ Try.func22 (by kernel_rfl) (by kernel_rfl) rfl rfl (fun w _ => is_any _ _ w HM.out (fun i _ => (red2q_mod (f i)).symm)) ?_
      simp only [Act.put, List.setIfInBounds_toArray, List.set]
      refine wpDet_pick (.tmp 22) (.tmp 26) (.const (.bool false)) true rfl rfl rfl ?_
      simp only [Act.put, List.setIfInBounds_toArray, List.set]
      refine wpDet_move (.tmp 27) rfl rfl ?_
      simp only [Act.put, List.setIfInBounds_toArray, List.set]
      refine wpDet_call (.int .u32 1) _ _ Try.func20 (by kernel_rfl) (by kernel_rfl) rfl rfl (fun w _ => (dReduceOne_any 1 w (by omega)).mono fun _ _ ⟨h1, h2⟩ => ⟨by rw [h1]; rfl, h2 ▸ Ext.refl _⟩) ?_
      simp only [Act.put, List.setIfInBounds_toArray, List.set]
      refine wpDet_val (.int .u32 1) rfl (fun _ _ => rfl) ?_
      simp only [Act.put, List.setIfInBounds_toArray, List.set]
      refine wpDet_val (.bool true) rfl (fun _ _ => rfl) ?_
      simp only [Act.put, List.setIfInBounds_toArray, List.set]
      refine wpDet_pick (.tmp 28) (.tmp 31) (.const (.bool false)) true rfl rfl rfl ?_
      simp only [Act.put, List.setIfInBounds_toArray, List.set]
      refine wpDet_assign (.tmp 32) rfl rfl ?_
      simp only [Act.put, List.setIfInBounds_toArray, List.set]
      intro wz xz
      go_wp2_with fail
      go_ret
      exact ⟨rfl, HX.out.trans xz⟩
end Go.Proofs.Ytgkombmhadgioaa.fnDReduceIs
