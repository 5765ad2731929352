/- Dilithium's methods that go place by place (ReduceLe2Q, Normalize, NormalizeAssumingLe2Q, MulBy2toD, Add, Sub), and their wrappers. -/
import Derived.Test.YtnehgjpphojhlaaDoorDTab
import Derived.Test.YtnehgjpphojhlaaDoorDField
import Derived.Test.YtnehgjpphojhlaaDoorUpto
import Derived.Test.YtnehgjpphojhlaaDoorTwo
import Derived.Lib.Hide
namespace Go.Proofs.YtnehgjpphojhlaaDoor
open Go Go.Proofs Go.RowKit Go.Kd

theorem flip_same {P : Program} {f : FuncId} {args : Array Value} {w : World} {v : Value} (h : Calls P f args w fun e w' => e = .returned v ∧ w = w') : Calls P f args w fun e w' => e = .returned v ∧ w' = w :=
  h.mono fun _ _ ⟨h1, h2⟩ => ⟨h1, h2.symm⟩

set_option maxRecDepth 100000 in
/-- place by place -/
theorem reduceG_any (b : Nat) (w : World) (T : TypeId) (f : Nat → Int) (hb : Blk w b T (cellsF 256 (ints .u32 f))) (hf : ∀ i, i < 256 → 0 ≤ f i ∧ f i ≤ 4294967295) :
    Calls Tryd.prog 29 #[.pointer (some ⟨b, 0, none⟩)] w fun e w' => e = .returned (.tuple #[]) ∧ Only b w w' ∧ Blk w' b T (cellsF 256 (ints .u32 (fun i => red2q (f i)))) := by
  go_enter Tryd.func29, Tryd.ntmps29
  go_wp2_with fail
  go_loopw [2] (fun i wr => ∃ j : Nat, j ≤ 256 ∧ i = .int .u64 j ∧ Only b w wr ∧ Blk wr b T (cellsF 256 (upto j (ints .u32 (fun i => red2q (f i))) (ints .u32 f)))) (fun i _ => 256 - (intOf i).toNat)
  case atStart => exact ⟨0, by omega, rfl, Only.refl _ _, by rw [upto_zero]; exact hb⟩
  case round =>
    obtain ⟨j, hj, rfl, ho, hbk⟩ := hrel
    by_cases hlt : j < 256
    · have ca : wr.cell? ⟨b, j, none⟩ = some (.int .u32 (f j)) := by have h := hbk.cell hlt; rw [upto_at] at h; exact h
      have fp := hbk.frozen j
      obtain ⟨q1, q2⟩ := hf j hlt
      clear hf
      clear hb
      go_wp2_with fail
      go_still_tail 10, mixed
      still_call (flip_same (red2q_any (f j) _ ⟨q1, q2⟩))
      repeat still_step
      refine wpStill_nil ?_
      go_wp2_with fail
      go_roundw
      case rel =>
        refine ⟨j + 1, by omega, by go_num, (ho.drew).setCell _, ?_⟩
        have h1 := Blk.setCell (hbk.drew) j (ints .u32 (fun i => red2q (f i)) j)
        rw [upto_set (by rfl)] at h1
        exact h1
      case measure => simp [intOf]; omega
    · have hj' : j = 256 := by omega
      subst hj'
      go_wp2_with fail
      go_end0
      exact ⟨rfl, ho, by rw [upto_all] at hbk; exact hbk⟩




theorem reduceM_any (b : Nat) (w : World) (T : TypeId) (f : Nat → Int) (hb : Blk w b T (cellsF 256 (ints .u32 f))) (hf : ∀ i, i < 256 → 0 ≤ f i ∧ f i ≤ 4294967295) :
    Calls Tryd.prog 25 #[.pointer (some ⟨b, 0, none⟩)] w fun e w' => e = .returned (.tuple #[]) ∧ Only b w w' ∧ Blk w' b T (cellsF 256 (ints .u32 (fun i => red2q (f i)))) := by
  have H := Lib.hid (reduceG_any b w T f hb hf)
  clear hb
  go_enter Tryd.func25, Tryd.ntmps25
  go_wp2_with (go_at_call 29; refine H.out.mono ?_; rintro e w' ⟨rfl, hq⟩)
  go_end0
  exact ⟨rfl, hq⟩




/-- the wrapper of a method -/
theorem dReduce_any (f : Nat → Int) (w : World) (hf : ∀ i, i < 256 → 0 ≤ f i ∧ f i ≤ 4294967295) : Calls Tryd.prog 17 #[.agg (cellsF 256 (ints .u32 f))] w fun e w' => e = .returned (.agg (cellsF 256 (ints .u32 (fun i => red2q (f i))))) ∧ Ext w w' := by
  go_enter Tryd.func17, Tryd.ntmps17
  refine wp_region_then ?_
  refine wpList_boxA 28 (.tmp 0) _ rfl rfl rfl ?_
  simp only [Act.put, List.setIfInBounds_toArray, List.set]
  intro w1 bp hp x1 kp
  have X1 := Ext.trans (Ext.refl w) x1
  have z1 := x1.size
  have lp := kp.lt
  refine wpList_allocA 28 _ _ zeroK rfl rfl ?_
  simp only [Act.put, List.setIfInBounds_toArray, List.set]
  intro w2 br hr x2 kr
  have X2 := Ext.trans X1 x2
  have z2 := x2.size
  replace kp := kp.ext x2
  have lr := kr.lt
  refine wp_next (wp_region_then ?_)
  refine wpList_loadA arrK (.tmp 1) bp _ kp (size_cellsF _ _) rfl rfl rfl ?_
  simp only [Act.put, List.setIfInBounds_toArray, List.set]
  refine wpList_allocA 42 _ _ zeroP rfl rfl ?_
  simp only [Act.put, List.setIfInBounds_toArray, List.set]
  intro w3 bx hx x3 kx
  have X3 := Ext.trans X2 x3
  have z3 := x3.size
  replace kp := kp.ext x3
  replace kr := kr.ext x3
  have lx := kx.lt
  refine wpList_storeA arrP (.tmp 3) (.tmp 4) bx _ _ kx (size_cellsF _ _) (size_cellsF _ _) (one_cellsF _ _ _) rfl rfl rfl rfl ?_
  simp only [Act.put]
  clear kx
  intro w4 o4 kx
  have X4 := o4.ext X3 (by omega)
  have z4 := o4.size
  replace kp := o4.blk (by omega) kp
  replace kr := o4.blk (by omega) kr
  refine wp_next (wp_region_then ?_)
  refine wpList_call0 _ _ Tryd.func25 (by kernel_rfl) (by kernel_rfl) rfl rfl (reduceM_any bx _ _ f kx hf) ?_
  simp only [Act.put, List.setIfInBounds_toArray, List.set]
  clear kx
  rintro w5 ⟨o5, kx⟩
  have X5 := o5.ext X4 (by omega)
  have z5 := o5.size
  replace kp := o5.blk (by omega) kp
  replace kr := o5.blk (by omega) kr
  refine wp_next (wp_region_then ?_)
  refine wpList_loadA arrP (.tmp 3) bx _ kx (size_cellsF _ _) rfl rfl rfl ?_
  simp only [Act.put, List.setIfInBounds_toArray, List.set]
  refine wpList_storeA arrK (.tmp 2) (.tmp 6) br _ _ kr (size_cellsF _ _) (size_cellsF _ _) (one_cellsF _ _ _) rfl rfl rfl rfl ?_
  simp only [Act.put]
  clear kr
  intro w6 o6 kr
  have X6 := o6.ext X5 (by omega)
  have z6 := o6.size
  replace kp := o6.blk (by omega) kp
  replace kx := o6.blk (by omega) kx
  refine wp_next (wp_ret ?_)
  exact bodyPost_cellA arrK rfl br _ kr (size_cellsF _ _) rfl rfl ⟨rfl, X6⟩










end Go.Proofs.YtnehgjpphojhlaaDoor
