/- laws.FnKTangle returns true at every polynomial. -/
import Derived.Test.YtidgcjmgekeapaaKTan
namespace Go.Proofs.Ytidgcjmgekeapaa.fnKTangle
open Go Go.Proofs Go.RowKit Go.Kd

theorem walk (f : Nat → Int) (_hf : ∀ i, i < 256 → (Lit.int .i16 (f i)).wf = true) (w : World) :
    Calls Try.prog 4 #[.agg (cellsF 256 (ints .i16 f))] w fun e w' => e = .returned (.bool true) ∧ Ext w w' := by
  go_enter Try.func4, Try.ntmps4
  refine wp_region_then ?_
  refine wpList_boxA 25 (.tmp 0) _ rfl rfl rfl ?_
  intro w1 b1 hb1 x1 k1
  refine wpList_val (v := .bool false) rfl rfl ?_
  refine wp_next (wp_seq ?_)
  refine wp_region_det mixed (by kernel_rfl) ?_
  have ft := Try.func12
  have fd := Try.func11
  have fo := Try.func13
  refine wpDet_loadA arrK (.tmp 1) b1 _ k1 (size_cellsF _ _) rfl rfl rfl ?_
  simp only [Act.put, List.setIfInBounds_toArray, List.set_cons_succ, List.set_cons_zero]
  refine wpDet_call (.agg (cellsF 256 (ints .i16 f))) _ _ ft (by kernel_rfl) (by kernel_rfl) rfl rfl (fun w _ => kTangle_any f w) ?_
  simp only [Act.put, List.setIfInBounds_toArray, List.set_cons_succ, List.set_cons_zero]
  refine wpDet_call (.agg (cellsF 256 (ints .i16 f))) _ _ fd (by kernel_rfl) (by kernel_rfl) rfl rfl (fun w _ => kDetangle_any f w) ?_
  simp only [Act.put, List.setIfInBounds_toArray, List.set_cons_succ, List.set_cons_zero]
  refine wpDet_loadA arrK (.tmp 1) b1 _ k1 (size_cellsF _ _) rfl rfl rfl ?_
  simp only [Act.put, List.setIfInBounds_toArray, List.set_cons_succ, List.set_cons_zero]
  refine wpDet_eql intK (.tmp 5) (.tmp 6) _ f f true (eq_dec fun _ _ => rfl) rfl rfl rfl rfl ?_
  simp only [Act.put, List.setIfInBounds_toArray, List.set_cons_succ, List.set_cons_zero]
  refine wpDet_move (.tmp 7) rfl rfl ?_
  simp only [Act.put, List.setIfInBounds_toArray, List.set_cons_succ, List.set_cons_zero]
  refine wpDet_loadA arrK (.tmp 1) b1 _ k1 (size_cellsF _ _) rfl rfl rfl ?_
  simp only [Act.put, List.setIfInBounds_toArray, List.set_cons_succ, List.set_cons_zero]
  refine wpDet_call (.agg (cellsF 256 (ints .i16 f))) _ _ fd (by kernel_rfl) (by kernel_rfl) rfl rfl (fun w _ => kDetangle_any f w) ?_
  simp only [Act.put, List.setIfInBounds_toArray, List.set_cons_succ, List.set_cons_zero]
  refine wpDet_call (.agg (cellsF 256 (ints .i16 f))) _ _ ft (by kernel_rfl) (by kernel_rfl) rfl rfl (fun w _ => kTangle_any f w) ?_
  simp only [Act.put, List.setIfInBounds_toArray, List.set_cons_succ, List.set_cons_zero]
  refine wpDet_loadA arrK (.tmp 1) b1 _ k1 (size_cellsF _ _) rfl rfl rfl ?_
  simp only [Act.put, List.setIfInBounds_toArray, List.set_cons_succ, List.set_cons_zero]
  refine wpDet_eql intK (.tmp 11) (.tmp 12) _ f f true (eq_dec fun _ _ => rfl) rfl rfl rfl rfl ?_
  simp only [Act.put, List.setIfInBounds_toArray, List.set_cons_succ, List.set_cons_zero]
  refine wpDet_pick (.tmp 8) (.tmp 13) (.const (.bool false)) true rfl rfl rfl ?_
  simp only [Act.put, List.setIfInBounds_toArray, List.set_cons_succ, List.set_cons_zero]
  refine wpDet_move (.tmp 14) rfl rfl ?_
  simp only [Act.put, List.setIfInBounds_toArray, List.set_cons_succ, List.set_cons_zero]
  refine wpDet_call (.agg (cellsF 256 (ints .i16 oneF))) _ _ fo (by kernel_rfl) (by kernel_rfl) rfl rfl (fun w _ => one_any w) ?_
  simp only [Act.put, List.setIfInBounds_toArray, List.set_cons_succ, List.set_cons_zero]
  refine wpDet_call (.agg (cellsF 256 (ints .i16 oneF))) _ _ ft (by kernel_rfl) (by kernel_rfl) rfl rfl (fun w _ => kTangle_any oneF w) ?_
  simp only [Act.put, List.setIfInBounds_toArray, List.set_cons_succ, List.set_cons_zero]
  refine wpDet_build0 intK _ zeroK rfl rfl ?_
  simp only [Act.put, List.setIfInBounds_toArray, List.set_cons_succ, List.set_cons_zero]
  refine wpDet_neq intK (.tmp 17) (.tmp 18) _ oneF (fun _ => 0) true (ne_dec 0 (by omega) (by simp [oneF])) rfl rfl rfl rfl ?_
  simp only [Act.put, List.setIfInBounds_toArray, List.set_cons_succ, List.set_cons_zero]
  refine wpDet_pick (.tmp 15) (.tmp 19) (.const (.bool false)) true rfl rfl rfl ?_
  simp only [Act.put, List.setIfInBounds_toArray, List.set_cons_succ, List.set_cons_zero]
  refine wpDet_assign (.tmp 20) rfl rfl ?_
  simp only [Act.put, List.setIfInBounds_toArray, List.set_cons_succ, List.set_cons_zero]
  intro w2 x2
  refine wp_ret ?_
  go_ret
  exact ⟨rfl, x1.trans x2⟩
end Go.Proofs.Ytidgcjmgekeapaa.fnKTangle
