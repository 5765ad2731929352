/- impl.KTangle, impl.KDetangle: the same polynomial; laws.one: the polynomial 1. -/
import Derived.Test.YtidgcjmgekeapaaDoorKTab
namespace Go.Proofs.YtidgcjmgekeapaaDoor
open Go Go.Proofs Go.RowKit Go.Kd

theorem Detangle_any (b : Nat) (w : World) (T : TypeId) (f : Nat → Int) (hb : Blk w b T (cellsF 256 (ints .i16 f))) : Calls Tryd.prog 30 #[.pointer (some ⟨b, 0, none⟩)] w fun e w' => e = .returned (.tuple #[]) ∧ Only b w w' ∧ Blk w' b T (cellsF 256 (ints .i16 f)) := by
  have H := hb
  clear hb
  go_enter Tryd.func30, Tryd.ntmps30
  go_wp2_with fail
  go_end0
  exact ⟨rfl, Only.refl _ _, H⟩

/-- the wrapper of a method -/
theorem kDetangle_any (f : Nat → Int) (w : World) : Calls Tryd.prog 22 #[.agg (cellsF 256 (ints .i16 f))] w fun e w' => e = .returned (.agg (cellsF 256 (ints .i16 f))) ∧ Ext w w' := by
  go_enter Tryd.func22, Tryd.ntmps22
  refine wp_region_then ?_
  refine wpList_boxA 28 (.tmp 0) _ rfl rfl rfl ?_
  simp only [Act.put, List.setIfInBounds_toArray, List.set]
  intro w1 bp hp x1 kp
  have X1 := Ext.trans (Ext.refl w) x1
  have z1 := x1.size
  have lp := kp.lt
  refine wpList_allocA 28 _ _ zeroK rfl rfl ?_
  simp only [Act.put, List.setIfInBounds_toArray, List.set]
  intro w2 br hr x2 kr
  have X2 := Ext.trans X1 x2
  have z2 := x2.size
  replace kp := kp.ext x2
  have lr := kr.lt
  refine wp_next (wp_region_then ?_)
  refine wpList_loadA arrK (.tmp 1) bp _ kp (size_cellsF _ _) rfl rfl rfl ?_
  simp only [Act.put, List.setIfInBounds_toArray, List.set]
  refine wpList_allocA 43 _ _ zeroP rfl rfl ?_
  simp only [Act.put, List.setIfInBounds_toArray, List.set]
  intro w3 bx hx x3 kx
  have X3 := Ext.trans X2 x3
  have z3 := x3.size
  replace kp := kp.ext x3
  replace kr := kr.ext x3
  have lx := kx.lt
  refine wpList_storeA arrP (.tmp 3) (.tmp 4) bx _ _ kx (size_cellsF _ _) (size_cellsF _ _) (one_cellsF _ _ _) rfl rfl rfl rfl ?_
  simp only [Act.put]
  clear kx
  intro w4 o4 kx
  have X4 := o4.ext X3 (by omega)
  have z4 := o4.size
  replace kp := o4.blk (by omega) kp
  replace kr := o4.blk (by omega) kr
  refine wp_next (wp_region_then ?_)
  refine wpList_call0 _ _ Tryd.func30 (by kernel_rfl) (by kernel_rfl) rfl rfl (Detangle_any bx _ _ f kx) ?_
  simp only [Act.put, List.setIfInBounds_toArray, List.set]
  clear kx
  rintro w5 ⟨o5, kx⟩
  have X5 := o5.ext X4 (by omega)
  have z5 := o5.size
  replace kp := o5.blk (by omega) kp
  replace kr := o5.blk (by omega) kr
  refine wp_next (wp_region_then ?_)
  refine wpList_loadA arrP (.tmp 3) bx _ kx (size_cellsF _ _) rfl rfl rfl ?_
  simp only [Act.put, List.setIfInBounds_toArray, List.set]
  refine wpList_storeA arrK (.tmp 2) (.tmp 6) br _ _ kr (size_cellsF _ _) (size_cellsF _ _) (one_cellsF _ _ _) rfl rfl rfl rfl ?_
  simp only [Act.put]
  clear kr
  intro w6 o6 kr
  have X6 := o6.ext X5 (by omega)
  have z6 := o6.size
  replace kp := o6.blk (by omega) kp
  replace kx := o6.blk (by omega) kx
  refine wp_next (wp_ret ?_)
  exact bodyPost_cellA arrK rfl br _ kr (size_cellsF _ _) rfl rfl ⟨rfl, X6⟩

/-- the polynomial 1 -/
def oneF : Nat → Int := fun i => if i = 0 then 1 else 0
theorem one_eq : (cellsF 256 fun i => if i = 0 then Value.int .i16 1 else ints .i16 (fun _ => 0) i) = cellsF 256 (ints .i16 oneF) :=
  cellsF_congr fun i hi => by unfold ints oneF; by_cases h : i = 0 <;> simp [h]

theorem one_any (w : World) : Calls Tryd.prog 20 #[] w fun e w' => e = .returned (.agg (cellsF 256 (ints .i16 oneF))) ∧ Ext w w' := by
  go_enter Tryd.func20, Tryd.ntmps20
  refine wp_region_then ?_
  refine wpList_allocA 28 _ _ zeroK rfl rfl ?_
  simp only [Act.put, List.setIfInBounds_toArray, List.set]
  intro w1 br hr x1 kr
  have X1 := Ext.trans (Ext.refl w) x1
  have z1 := x1.size
  have lr := kr.lt
  refine wp_next (wp_region_then ?_)
  refine wpList_build1 intK _ 0 (by omega) (.const (.int .i16 1)) 1 rfl zeroK rfl rfl ?_
  rw [one_eq]
  simp only [Act.put, List.setIfInBounds_toArray, List.set]
  refine wpList_storeA arrK (.tmp 0) (.tmp 1) br _ _ kr (size_cellsF _ _) (size_cellsF _ _) (one_cellsF _ _ _) rfl rfl rfl rfl ?_
  simp only [Act.put]
  clear kr
  intro w2 o2 kr
  have X2 := o2.ext X1 (by omega)
  have z2 := o2.size
  refine wp_next (wp_ret ?_)
  exact bodyPost_cellA arrK rfl br _ kr (size_cellsF _ _) rfl rfl ⟨rfl, X2⟩
end Go.Proofs.YtidgcjmgekeapaaDoor
