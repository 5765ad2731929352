/- laws.FnKToMontIs returns true at every polynomial. -/
import Derived.Test.YtidgcjmgekeapaaKMap
import Derived.Test.YtidgcjmgekeapaaKSpec
import Derived.Test.YtidgcjmgekeapaaKTan
import Derived.Test.YtidgcjmgekeapaaKHelp
namespace Go.Proofs.Ytidgcjmgekeapaa.fnKToMontIs
open Go Go.Proofs Go.RowKit Go.Kd
theorem walk (f : Nat → Int) (hf : ∀ i, i < 256 → (Lit.int .i16 (f i)).wf = true) (w : World) :
    Calls Try.prog 9 #[.agg (cellsF 256 (ints .i16 f))] w fun e w' => e = .returned (.bool true) ∧ Ext w w' := by
  have hb : ∀ i, i < 256 → -32768 ≤ f i ∧ f i ≤ 32767 := fun i hi => bounds_i16 (hf i hi)
  clear hf
  have n1 : ∀ i, i < 256 → -3329 ≤ mont (f i * 1353) ∧ mont (f i * 1353) ≤ 3329 := fun i hi => mont_bd _ (by have := hb i hi; omega)
  have n2 : ∀ i, i < 256 → -32768 ≤ mont (f i * 1353) ∧ mont (f i * 1353) ≤ 32767 := fun i hi => by have := n1 i hi; omega
  have n3 : ∀ i, i < 256 → 0 ≤ f i % 3329 ∧ f i % 3329 < 3329 := fun i _ => by omega
  go_enter Try.func9, Try.ntmps9
  refine wp_region_then ?_
  refine wpList_boxA 25 (.tmp 0) _ rfl rfl rfl ?_
  simp only [Act.put, List.setIfInBounds_toArray, List.set_cons_succ, List.set_cons_zero]
  intro w1 bp hp x1 kp
  have X1 := Ext.trans (Ext.refl w) x1
  have z1 := x1.size
  have lp := kp.lt
  refine wpList_val (v := .bool false) rfl rfl ?_
  simp only [Act.put, List.setIfInBounds_toArray, List.set_cons_succ, List.set_cons_zero]
  refine wp_next (wp_region_then ?_)
  refine wpList_loadA arrK (.tmp 1) bp _ kp (size_cellsF _ _) rfl rfl rfl ?_
  simp only [Act.put, List.setIfInBounds_toArray, List.set_cons_succ, List.set_cons_zero]
  refine wpList_call0 _ _ Try.func25 (by kernel_rfl) (by kernel_rfl) rfl rfl (kToMont_any f _ hb) ?_
  simp only [Act.put, List.setIfInBounds_toArray, List.set_cons_succ, List.set_cons_zero]
  intro w2 x2
  have X2 := Ext.trans X1 x2
  have z2 := x2.size
  replace kp := kp.ext x2
  refine wpList_allocA 25 _ _ zeroK rfl rfl ?_
  simp only [Act.put, List.setIfInBounds_toArray, List.set_cons_succ, List.set_cons_zero]
  intro w3 bg hg x3 kg
  have X3 := Ext.trans X2 x3
  have z3 := x3.size
  replace kp := kp.ext x3
  have lg := kg.lt
  refine wpList_storeA arrK (.tmp 3) (.tmp 5) bg _ _ kg (size_cellsF _ _) (size_cellsF _ _) (one_cellsF _ _ _) rfl rfl rfl rfl ?_
  simp only [Act.put]
  clear kg
  intro w4 o4 kg
  have X4 := o4.ext X3 (by omega)
  have z4 := o4.size
  replace kp := o4.blk (by omega) kp
  refine wp_next (wp_seq ?_)
  refine wp_region_det mixed (by kernel_rfl) ?_
  refine wpDet_loadA arrK (.tmp 3) bg _ kg (size_cellsF _ _) rfl rfl rfl ?_
  simp only [Act.put, List.setIfInBounds_toArray, List.set_cons_succ, List.set_cons_zero]
  refine wpDet_call (.bool true) _ _ Try.func26 (by kernel_rfl) (by kernel_rfl) rfl rfl (fun w _ => within_yes _ 3329 w (by omega) n1) ?_
  simp only [Act.put, List.setIfInBounds_toArray, List.set_cons_succ, List.set_cons_zero]
  refine wpDet_move (.tmp 7) rfl rfl ?_
  simp only [Act.put, List.setIfInBounds_toArray, List.set_cons_succ, List.set_cons_zero]
  refine wpDet_loadA arrK (.tmp 1) bp _ kp (size_cellsF _ _) rfl rfl rfl ?_
  simp only [Act.put, List.setIfInBounds_toArray, List.set_cons_succ, List.set_cons_zero]
  refine wpDet_call (.agg (cellsF 256 (ints .i64 (fun i => f i % 3329)))) _ _ Try.func18 (by kernel_rfl) (by kernel_rfl) rfl rfl (fun w _ => of_any f w hb) ?_
  simp only [Act.put, List.setIfInBounds_toArray, List.set_cons_succ, List.set_cons_zero]
  refine wpDet_call (.agg (cellsF 256 (ints .i64 (fun i => f i % 3329 * (65536 % 3329) % 3329)))) _ _ Try.func27 (by kernel_rfl) (by kernel_rfl) rfl rfl (fun w _ => times_any _ 65536 w n3 (by omega)) ?_
  simp only [Act.put, List.setIfInBounds_toArray, List.set_cons_succ, List.set_cons_zero]
  refine wpDet_loadA arrK (.tmp 3) bg _ kg (size_cellsF _ _) rfl rfl rfl ?_
  simp only [Act.put, List.setIfInBounds_toArray, List.set_cons_succ, List.set_cons_zero]
  refine wpDet_call (.bool true) _ _ Try.func19 (by kernel_rfl) (by kernel_rfl) rfl rfl (fun w _ => is_any _ _ w n2 (fun i _ => tomont_times (f i))) ?_
  simp only [Act.put, List.setIfInBounds_toArray, List.set_cons_succ, List.set_cons_zero]
  refine wpDet_pick (.tmp 8) (.tmp 13) (.const (.bool false)) true rfl rfl rfl ?_
  simp only [Act.put, List.setIfInBounds_toArray, List.set_cons_succ, List.set_cons_zero]
  refine wpDet_assign (.tmp 14) rfl rfl ?_
  simp only [Act.put, List.setIfInBounds_toArray, List.set_cons_succ, List.set_cons_zero]
  intro w5 x5
  have X5 := Ext.trans X4 x5
  have z5 := x5.size
  replace kp := kp.ext x5
  replace kg := kg.ext x5
  refine wp_ret ?_
  go_ret
  exact ⟨rfl, X5⟩
end Go.Proofs.Ytidgcjmgekeapaa.fnKToMontIs
