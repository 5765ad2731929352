/- impl.KTangle, impl.KDetangle: the same polynomial. -/
import Derived.Test.YtidgcjmgekeapaaKTab
namespace Go.Proofs.Ytidgcjmgekeapaa
open Go Go.Proofs Go.RowKit Go.Kd

theorem Tangle_any (b : Nat) (w : World) : Calls Try.prog 30 #[.pointer (some ⟨b, 0, none⟩)] w fun e w' => e = .returned (.tuple #[]) ∧ w = w' := by
  go_enter Try.func30, Try.ntmps30
  go_wp2_with fail
  go_end0
  exact ⟨rfl, rfl⟩

theorem Detangle_any (b : Nat) (w : World) : Calls Try.prog 29 #[.pointer (some ⟨b, 0, none⟩)] w fun e w' => e = .returned (.tuple #[]) ∧ w = w' := by
  go_enter Try.func29, Try.ntmps29
  go_wp2_with fail
  go_end0
  exact ⟨rfl, rfl⟩

theorem kTangle_any (f : Nat → Int) (w : World) : Calls Try.prog 12 #[.agg (cellsF 256 (ints .i16 f))] w fun e w' => e = .returned (.agg (cellsF 256 (ints .i16 f))) ∧ Ext w w' := by
  go_enter Try.func12, Try.ntmps12
  refine wp_region_then ?_
  refine wpList_boxA 25 (.tmp 0) _ rfl rfl rfl ?_
  simp only [Act.put, List.setIfInBounds_toArray, List.set_cons_succ, List.set_cons_zero]
  intro w1 b1 hb1 x1 k1
  refine wpList_allocA 25 _ _ zeroK rfl rfl ?_
  simp only [Act.put, List.setIfInBounds_toArray, List.set_cons_succ, List.set_cons_zero]
  intro w2 b2 hb2 x2 k2
  refine wp_next (wp_region_then ?_)
  refine wpList_loadA arrK (.tmp 1) b1 _ (k1.ext x2) (size_cellsF _ _) rfl rfl rfl ?_
  simp only [Act.put, List.setIfInBounds_toArray, List.set_cons_succ, List.set_cons_zero]
  refine wpList_allocA 40 _ _ zeroP rfl rfl ?_
  simp only [Act.put, List.setIfInBounds_toArray, List.set_cons_succ, List.set_cons_zero]
  intro w3 b3 hb3 x3 k3
  refine wpList_storeA arrP (.tmp 3) (.tmp 4) b3 _ _ k3 (size_cellsF _ _) (size_cellsF _ _) (one_cellsF _ _ _) rfl rfl rfl rfl ?_
  simp only [Act.put, List.setIfInBounds_toArray, List.set_cons_succ, List.set_cons_zero]
  intro w4 o4 k4
  refine wp_next (wp_region_then ?_)
  refine wpList_call0 _ _ Try.func30 (by kernel_rfl) (by kernel_rfl) rfl rfl (Tangle_any b3 w4) ?_
  simp only [Act.put, List.setIfInBounds_toArray, List.set_cons_succ, List.set_cons_zero]
  rintro w5 rfl
  refine wp_next (wp_region_then ?_)
  refine wpList_loadA arrP (.tmp 3) b3 _ k4 (size_cellsF _ _) rfl rfl rfl ?_
  simp only [Act.put, List.setIfInBounds_toArray, List.set_cons_succ, List.set_cons_zero]
  refine wpList_storeA arrK (.tmp 2) (.tmp 6) b2 _ _ (o4.blk (by have := k2.lt; omega) (k2.ext x3)) (size_cellsF _ _) (size_cellsF _ _) (one_cellsF _ _ _) rfl rfl rfl rfl ?_
  simp only [Act.put, List.setIfInBounds_toArray, List.set_cons_succ, List.set_cons_zero]
  intro w6 o6 k6
  refine wp_next (wp_ret ?_)
  refine bodyPost_cellA arrK rfl b2 _ k6 (size_cellsF _ _) rfl rfl ⟨rfl, ?_⟩
  have h1 := x1.size
  have h2 := x2.size
  have h3 := x3.size
  exact o6.ext (o4.ext ((x1.trans x2).trans x3) (by omega)) (by omega)
theorem kDetangle_any (f : Nat → Int) (w : World) : Calls Try.prog 11 #[.agg (cellsF 256 (ints .i16 f))] w fun e w' => e = .returned (.agg (cellsF 256 (ints .i16 f))) ∧ Ext w w' := by
  go_enter Try.func11, Try.ntmps11
  refine wp_region_then ?_
  refine wpList_boxA 25 (.tmp 0) _ rfl rfl rfl ?_
  simp only [Act.put, List.setIfInBounds_toArray, List.set_cons_succ, List.set_cons_zero]
  intro w1 b1 hb1 x1 k1
  refine wpList_allocA 25 _ _ zeroK rfl rfl ?_
  simp only [Act.put, List.setIfInBounds_toArray, List.set_cons_succ, List.set_cons_zero]
  intro w2 b2 hb2 x2 k2
  refine wp_next (wp_region_then ?_)
  refine wpList_loadA arrK (.tmp 1) b1 _ (k1.ext x2) (size_cellsF _ _) rfl rfl rfl ?_
  simp only [Act.put, List.setIfInBounds_toArray, List.set_cons_succ, List.set_cons_zero]
  refine wpList_allocA 40 _ _ zeroP rfl rfl ?_
  simp only [Act.put, List.setIfInBounds_toArray, List.set_cons_succ, List.set_cons_zero]
  intro w3 b3 hb3 x3 k3
  refine wpList_storeA arrP (.tmp 3) (.tmp 4) b3 _ _ k3 (size_cellsF _ _) (size_cellsF _ _) (one_cellsF _ _ _) rfl rfl rfl rfl ?_
  simp only [Act.put, List.setIfInBounds_toArray, List.set_cons_succ, List.set_cons_zero]
  intro w4 o4 k4
  refine wp_next (wp_region_then ?_)
  refine wpList_call0 _ _ Try.func29 (by kernel_rfl) (by kernel_rfl) rfl rfl (Detangle_any b3 w4) ?_
  simp only [Act.put, List.setIfInBounds_toArray, List.set_cons_succ, List.set_cons_zero]
  rintro w5 rfl
  refine wp_next (wp_region_then ?_)
  refine wpList_loadA arrP (.tmp 3) b3 _ k4 (size_cellsF _ _) rfl rfl rfl ?_
  simp only [Act.put, List.setIfInBounds_toArray, List.set_cons_succ, List.set_cons_zero]
  refine wpList_storeA arrK (.tmp 2) (.tmp 6) b2 _ _ (o4.blk (by have := k2.lt; omega) (k2.ext x3)) (size_cellsF _ _) (size_cellsF _ _) (one_cellsF _ _ _) rfl rfl rfl rfl ?_
  simp only [Act.put, List.setIfInBounds_toArray, List.set_cons_succ, List.set_cons_zero]
  intro w6 o6 k6
  refine wp_next (wp_ret ?_)
  refine bodyPost_cellA arrK rfl b2 _ k6 (size_cellsF _ _) rfl rfl ⟨rfl, ?_⟩
  have h1 := x1.size
  have h2 := x2.size
  have h3 := x3.size
  exact o6.ext (o4.ext ((x1.trans x2).trans x3) (by omega)) (by omega)

/-- the polynomial 1 -/
def oneF : Nat → Int := fun i => if i = 0 then 1 else 0

theorem one_eq : (cellsF 256 fun i => if i = 0 then Value.int .i16 1 else ints .i16 (fun _ => 0) i) = cellsF 256 (ints .i16 oneF) :=
  cellsF_congr fun i hi => by unfold ints oneF; by_cases h : i = 0 <;> simp [h]

theorem one_any (w : World) : Calls Try.prog 13 #[] w fun e w' => e = .returned (.agg (cellsF 256 (ints .i16 oneF))) ∧ Ext w w' := by
  go_enter Try.func13, Try.ntmps13
  refine wp_region_then ?_
  refine wpList_allocA 25 _ _ zeroK rfl rfl ?_
  simp only [Act.put, List.setIfInBounds_toArray, List.set_cons_succ, List.set_cons_zero]
  intro w1 b1 hb1 x1 k1
  refine wp_next (wp_region_then ?_)
  refine wpList_build1 intK _ 0 (by omega) (.const (.int .i16 1)) 1 rfl zeroK rfl rfl ?_
  simp only [Act.put, List.setIfInBounds_toArray, List.set_cons_succ, List.set_cons_zero]
  rw [one_eq]
  refine wpList_storeA arrK (.tmp 0) (.tmp 1) b1 _ (cellsF 256 (ints .i16 oneF)) k1 (size_cellsF _ _) (size_cellsF _ _) (one_cellsF _ _ _) rfl rfl rfl rfl ?_
  simp only [Act.put, List.setIfInBounds_toArray, List.set_cons_succ, List.set_cons_zero]
  intro w2 o2 k2
  refine wp_next (wp_ret ?_)
  exact bodyPost_cellA arrK rfl b1 _ k2 (size_cellsF _ _) rfl rfl ⟨rfl, o2.ext x1 hb1⟩
end Go.Proofs.Ytidgcjmgekeapaa
