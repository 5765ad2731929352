/- laws.ints. -/
import Derived.Test.YtngmpnkhdjnhoaaKTab
import Derived.Test.YtngmpnkhdjnhoaaEncK
import Derived.Lib.Hide
namespace Go.Proofs.Ytngmpnkhdjnhoaa
open Go Go.Proofs Go.RowKit Go.Kd
set_option maxRecDepth 100000 in
theorem lints_any (f : Nat → Int) (w : World) (hf : ∀ i, i < 256 → -32768 ≤ f i ∧ f i ≤ 32767) : Calls Try.prog 14 #[.agg (cellsF 256 (ints .i16 f))] w fun e w' => e = .returned (.agg (cellsF 256 (ints .i64 f))) ∧ Ext w w' := by
  go_enter Try.func14, Try.ntmps14
  refine wp_region_then ?_
  refine wpList_boxA 23 (.tmp 0) _ rfl rfl rfl ?_
  simp only [Act.put, List.setIfInBounds_toArray, List.set]
  intro w1 bp hp x1 kp
  have X1 := Ext.trans (Ext.refl w) x1
  have z1 := x1.size
  have lp := kp.lt
  refine wpList_allocA 29 _ _ zeroI rfl rfl ?_
  simp only [Act.put, List.setIfInBounds_toArray, List.set]
  intro w2 br hr x2 kr
  have X2 := Ext.trans X1 x2
  have z2 := x2.size
  replace kp := kp.ext x2
  have lr := kr.lt
  refine wp_next (wp_region_then ?_)
  refine wpList_build0 intI _ zeroI rfl rfl ?_
  simp only [Act.put, List.setIfInBounds_toArray, List.set]
  refine wpList_allocA 29 _ _ zeroI rfl rfl ?_
  simp only [Act.put, List.setIfInBounds_toArray, List.set]
  intro w3 bo ho x3 ko
  have X3 := Ext.trans X2 x3
  have z3 := x3.size
  replace kp := kp.ext x3
  replace kr := kr.ext x3
  have lo := ko.lt
  refine wpList_storeA arrI (.tmp 3) (.tmp 6) bo _ (cellsF 256 (ints .i64 fun _ => 0)) ko (size_cellsF _ _) (size_cellsF _ _) (one_cellsF _ _ _) rfl rfl rfl rfl ?_
  simp only [Act.put]
  clear ko
  intro w4 o4 ko
  have X4 := o4.ext X3 (by omega)
  have z4 := o4.size
  replace kp := o4.blk (by omega) kp
  replace kr := o4.blk (by omega) kr
  refine wp_next (wp_seq (wp_region_then ?_))
  refine wpList_loadA arrK (.tmp 1) bp _ kp (size_cellsF _ _) rfl rfl rfl ?_
  simp only [Act.put, List.setIfInBounds_toArray, List.set]
  refine wpList_val (v := .int .i64 0) rfl rfl ?_
  simp only [Act.put, List.setIfInBounds_toArray, List.set]
  refine wp_next ?_
  have hix : ∀ (j : Nat), j < 256 → ∀ wz, (Instr.index 23 (.agg (cellsF 256 (ints .i16 f))) (.int .i64 (j : Int))).run Try.prog wz = .ok (.int .i16 (f j)) wz := fun j hj wz => run_index intK _ j hj
  have hlt : br < bo := by omega
  have hw0 : w.heap.size ≤ bo := by omega
  have hw1 : w.heap.size ≤ br := by omega
  have HX := Lib.hid X4
  clear X1 X2 X3 X4
  go_wp2_with fail
  go_loopw [8] (fun i wr => ∃ j : Nat, j ≤ 256 ∧ i = .int .i64 j ∧ Only bo w4 wr ∧ Blk wr bo 29 (cellsF 256 (upto j (ints .i64 f) (ints .i64 fun _ => 0)))) (fun i _ => 256 - (intOf i).toNat)
  case atStart => exact ⟨0, by omega, rfl, Only.refl _ _, by rw [upto_zero]; exact ko⟩
  case round =>
    obtain ⟨j, hj, rfl, ho, hbk⟩ := hrel
    by_cases hjl : j < 256
    · have h1 := hix j hjl
      obtain ⟨q1, q2⟩ := hf j hjl
      have ca : wr.cell? ⟨bo, j, none⟩ = some (.int .i64 0) := by have h := hbk.cell hjl; rw [upto_at] at h; exact h
      have fp := hbk.frozen j
      clear hix hf
      go_wp2_with fail
      go_roundw
      case rel =>
        refine ⟨j + 1, by omega, by go_num, ho.setCell _, ?_⟩
        have h1 := Blk.setCell hbk j (ints .i64 f j)
        rw [upto_set (by rfl)] at h1
        exact h1
      case measure => simp [intOf]; omega
    · have hj' : j = 256 := by omega
      subst hj'
      rw [upto_all] at hbk
      have kr2 := ho.blk (by omega) kr
      have HO := Lib.hid ho
      clear hix hf ho
      go_wp2_with (first | (refine wpList_loadA arrI (.tmp 3) bo _ hbk (size_cellsF _ _) rfl rfl rfl ?_; simp only [Act.put, List.setIfInBounds_toArray, List.set]) | (refine wpList_storeA arrI (.tmp 2) (.tmp 17) br _ _ kr2 (size_cellsF _ _) (size_cellsF _ _) (one_cellsF _ _ _) rfl rfl rfl rfl ?_; simp only [Act.put]; intro wy oy ky))
      exact bodyPost_cellA arrI rfl br _ ky (size_cellsF _ _) rfl rfl ⟨rfl, oy.ext (HO.out.ext HX.out hw0) hw1⟩

end Go.Proofs.Ytngmpnkhdjnhoaa
