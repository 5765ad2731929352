/- Kyber's methods that go place by place: BarrettReduce, Normalize, ToMont; and their wrappers. -/
import Derived.Test.YtgojphoejmbliaaDoorKTab
import Derived.Test.YtgojphoejmbliaaDoorKField
import Derived.Test.YtgojphoejmbliaaDoorUpto
import Derived.Lib.Hide
namespace Go.Proofs.YtgojphoejmbliaaDoor
open Go Go.Proofs Go.RowKit Go.Kd

theorem flip_same {P : Program} {f : FuncId} {args : Array Value} {w : World} {v : Value} (h : Calls P f args w fun e w' => e = .returned v ∧ w = w') : Calls P f args w fun e w' => e = .returned v ∧ w' = w :=
  h.mono fun _ _ ⟨h1, h2⟩ => ⟨h1, h2.symm⟩

set_option maxRecDepth 100000 in
/-- place by place -/
theorem normalizeG_any (b : Nat) (w : World) (T : TypeId) (f : Nat → Int) (hb : Blk w b T (cellsF 256 (ints .i16 f))) (hf : ∀ i, i < 256 → -32768 ≤ f i ∧ f i ≤ 32767) :
    Calls Tryd.prog 19 #[.pointer (some ⟨b, 0, none⟩)] w fun e w' => e = .returned (.tuple #[]) ∧ Only b w w' ∧ Blk w' b T (cellsF 256 (ints .i16 (fun i => csub (barrett (f i))))) := by
  go_enter Tryd.func19, Tryd.ntmps19
  go_wp2_with fail
  go_loopw [2] (fun i wr => ∃ j : Nat, j ≤ 256 ∧ i = .int .i64 j ∧ Only b w wr ∧ Blk wr b T (cellsF 256 (upto j (ints .i16 (fun i => csub (barrett (f i)))) (ints .i16 f)))) (fun i _ => 256 - (intOf i).toNat)
  case atStart => exact ⟨0, by omega, rfl, Only.refl _ _, by rw [upto_zero]; exact hb⟩
  case round =>
    obtain ⟨j, hj, rfl, ho, hbk⟩ := hrel
    by_cases hlt : j < 256
    · have ca : wr.cell? ⟨b, j, none⟩ = some (.int .i16 (f j)) := by have h := hbk.cell hlt; rw [upto_at] at h; exact h
      have fp := hbk.frozen j
      obtain ⟨q1, q2⟩ := hf j hlt
      have q3 := barrett_bd (f j) ⟨q1, q2⟩
      clear hf
      clear hb
      go_wp2_with fail
      go_still_tail 11, mixed
      still_call (flip_same (barrett_any (f j) _ ⟨q1, q2⟩))
      still_call (flip_same (csubq_any (barrett (f j)) _ (by omega)))
      repeat still_step
      refine wpStill_nil ?_
      go_wp2_with fail
      go_roundw
      case rel =>
        refine ⟨j + 1, by omega, by go_num, (ho.drew).setCell _, ?_⟩
        have h1 := Blk.setCell (hbk.drew) j (ints .i16 (fun i => csub (barrett (f i))) j)
        rw [upto_set (by rfl)] at h1
        exact h1
      case measure => simp [intOf]; omega
    · have hj' : j = 256 := by omega
      subst hj'
      go_wp2_with fail
      go_end0
      exact ⟨rfl, ho, by rw [upto_all] at hbk; exact hbk⟩

theorem normalizeM_any (b : Nat) (w : World) (T : TypeId) (f : Nat → Int) (hb : Blk w b T (cellsF 256 (ints .i16 f))) (hf : ∀ i, i < 256 → -32768 ≤ f i ∧ f i ≤ 32767) :
    Calls Tryd.prog 14 #[.pointer (some ⟨b, 0, none⟩)] w fun e w' => e = .returned (.tuple #[]) ∧ Only b w w' ∧ Blk w' b T (cellsF 256 (ints .i16 (fun i => csub (barrett (f i))))) := by
  have H := Lib.hid (normalizeG_any b w T f hb hf)
  clear hb
  go_enter Tryd.func14, Tryd.ntmps14
  go_wp2_with (go_at_call 19; refine H.out.mono ?_; rintro e w' ⟨rfl, hq⟩)
  go_end0
  exact ⟨rfl, hq⟩

/-- the wrapper of a method -/
theorem kNormalize_any (f : Nat → Int) (w : World) (hf : ∀ i, i < 256 → -32768 ≤ f i ∧ f i ≤ 32767) : Calls Tryd.prog 5 #[.agg (cellsF 256 (ints .i16 f))] w fun e w' => e = .returned (.agg (cellsF 256 (ints .i16 (fun i => csub (barrett (f i)))))) ∧ Ext w w' := by
  go_enter Tryd.func5, Tryd.ntmps5
  refine wp_region_then ?_
  refine wpList_boxA 23 (.tmp 0) _ rfl rfl rfl ?_
  simp only [Act.put, List.setIfInBounds_toArray, List.set_cons_succ, List.set_cons_zero]
  intro w1 bp hp x1 kp
  have X1 := Ext.trans (Ext.refl w) x1
  have z1 := x1.size
  have lp := kp.lt
  refine wpList_allocA 23 _ _ zeroK rfl rfl ?_
  simp only [Act.put, List.setIfInBounds_toArray, List.set_cons_succ, List.set_cons_zero]
  intro w2 br hr x2 kr
  have X2 := Ext.trans X1 x2
  have z2 := x2.size
  replace kp := kp.ext x2
  have lr := kr.lt
  refine wp_next (wp_region_then ?_)
  refine wpList_loadA arrK (.tmp 1) bp _ kp (size_cellsF _ _) rfl rfl rfl ?_
  simp only [Act.put, List.setIfInBounds_toArray, List.set_cons_succ, List.set_cons_zero]
  refine wpList_allocA 34 _ _ zeroP rfl rfl ?_
  simp only [Act.put, List.setIfInBounds_toArray, List.set_cons_succ, List.set_cons_zero]
  intro w3 bx hx x3 kx
  have X3 := Ext.trans X2 x3
  have z3 := x3.size
  replace kp := kp.ext x3
  replace kr := kr.ext x3
  have lx := kx.lt
  refine wpList_storeA arrP (.tmp 3) (.tmp 4) bx _ _ kx (size_cellsF _ _) (size_cellsF _ _) (one_cellsF _ _ _) rfl rfl rfl rfl ?_
  simp only [Act.put]
  clear kx
  intro w4 o4 kx
  have X4 := o4.ext X3 (by omega)
  have z4 := o4.size
  replace kp := o4.blk (by omega) kp
  replace kr := o4.blk (by omega) kr
  refine wp_next (wp_region_then ?_)
  refine wpList_call0 _ _ Tryd.func14 (by kernel_rfl) (by kernel_rfl) rfl rfl (normalizeM_any bx _ _ f kx hf) ?_
  simp only [Act.put, List.setIfInBounds_toArray, List.set_cons_succ, List.set_cons_zero]
  clear kx
  rintro w5 ⟨o5, kx⟩
  have X5 := o5.ext X4 (by omega)
  have z5 := o5.size
  replace kp := o5.blk (by omega) kp
  replace kr := o5.blk (by omega) kr
  refine wp_next (wp_region_then ?_)
  refine wpList_loadA arrP (.tmp 3) bx _ kx (size_cellsF _ _) rfl rfl rfl ?_
  simp only [Act.put, List.setIfInBounds_toArray, List.set_cons_succ, List.set_cons_zero]
  refine wpList_storeA arrK (.tmp 2) (.tmp 6) br _ _ kr (size_cellsF _ _) (size_cellsF _ _) (one_cellsF _ _ _) rfl rfl rfl rfl ?_
  simp only [Act.put]
  clear kr
  intro w6 o6 kr
  have X6 := o6.ext X5 (by omega)
  have z6 := o6.size
  replace kp := o6.blk (by omega) kp
  replace kx := o6.blk (by omega) kx
  refine wp_next (wp_ret ?_)
  exact bodyPost_cellA arrK rfl br _ kr (size_cellsF _ _) rfl rfl ⟨rfl, X6⟩

end Go.Proofs.YtgojphoejmbliaaDoor
