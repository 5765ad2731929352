/- impl.KTangle, impl.KDetangle: the same polynomial; laws.one: the polynomial 1. -/
import Derived.Test.YtgojphoejmbliaaDoorKTab
namespace Go.Proofs.YtgojphoejmbliaaDoor
open Go Go.Proofs Go.RowKit Go.Kd

/-- the polynomial 1 -/
def oneF : Nat → Int := fun i => if i = 0 then 1 else 0
theorem one_eq : (cellsF 256 fun i => if i = 0 then Value.int .i16 1 else ints .i16 (fun _ => 0) i) = cellsF 256 (ints .i16 oneF) :=
  cellsF_congr fun i hi => by unfold ints oneF; by_cases h : i = 0 <;> simp [h]

theorem one_any (w : World) : Calls Tryd.prog 13 #[] w fun e w' => e = .returned (.agg (cellsF 256 (ints .i16 oneF))) ∧ Ext w w' := by
  go_enter Tryd.func13, Tryd.ntmps13
  refine wp_region_then ?_
  refine wpList_allocA 23 _ _ zeroK rfl rfl ?_
  simp only [Act.put, List.setIfInBounds_toArray, List.set]
  intro w1 br hr x1 kr
  have X1 := Ext.trans (Ext.refl w) x1
  have z1 := x1.size
  have lr := kr.lt
  refine wp_next (wp_region_then ?_)
  refine wpList_build1 intK _ 0 (by omega) (.const (.int .i16 1)) 1 rfl zeroK rfl rfl ?_
  rw [one_eq]
  simp only [Act.put, List.setIfInBounds_toArray, List.set]
  refine wpList_storeA arrK (.tmp 0) (.tmp 1) br _ _ kr (size_cellsF _ _) (size_cellsF _ _) (one_cellsF _ _ _) rfl rfl rfl rfl ?_
  simp only [Act.put]
  clear kr
  intro w2 o2 kr
  have X2 := o2.ext X1 (by omega)
  have z2 := o2.size
  refine wp_next (wp_ret ?_)
  exact bodyPost_cellA arrK rfl br _ kr (size_cellsF _ _) rfl rfl ⟨rfl, X2⟩
end Go.Proofs.YtgojphoejmbliaaDoor
