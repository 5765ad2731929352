/- Dilithium's methods that go place by place (ReduceLe2Q, Normalize, NormalizeAssumingLe2Q, MulBy2toD, Add, Sub), and their wrappers. -/
import Derived.Test.YtgkombmhadgioaaDTab
import Derived.Test.YtgkombmhadgioaaDField
import Derived.Test.YtgkombmhadgioaaUpto
import Derived.Test.YtgkombmhadgioaaTwo
import Derived.Lib.Hide
namespace Go.Proofs.Ytgkombmhadgioaa
open Go Go.Proofs Go.RowKit Go.Kd

theorem flip_same {P : Program} {f : FuncId} {args : Array Value} {w : World} {v : Value} (h : Calls P f args w fun e w' => e = .returned v ∧ w = w') : Calls P f args w fun e w' => e = .returned v ∧ w' = w :=
  h.mono fun _ _ ⟨h1, h2⟩ => ⟨h1, h2.symm⟩

set_option maxRecDepth 100000 in
/-- place by place -/
theorem reduceG_any (b : Nat) (w : World) (T : TypeId) (f : Nat → Int) (hb : Blk w b T (cellsF 256 (ints .u32 f))) (hf : ∀ i, i < 256 → 0 ≤ f i ∧ f i ≤ 4294967295) :
    Calls Try.prog 66 #[.pointer (some ⟨b, 0, none⟩)] w fun e w' => e = .returned (.tuple #[]) ∧ Only b w w' ∧ Blk w' b T (cellsF 256 (ints .u32 (fun i => red2q (f i)))) := by
  go_enter Try.func66, Try.ntmps66
  go_wp2_with fail
  go_loopw [2] (fun i wr => ∃ j : Nat, j ≤ 256 ∧ i = .int .u64 j ∧ Only b w wr ∧ Blk wr b T (cellsF 256 (upto j (ints .u32 (fun i => red2q (f i))) (ints .u32 f)))) (fun i _ => 256 - (intOf i).toNat)
  case atStart => exact ⟨0, by omega, rfl, Only.refl _ _, by rw [upto_zero]; exact hb⟩
  case round =>
    obtain ⟨j, hj, rfl, ho, hbk⟩ := hrel
    by_cases hlt : j < 256
    · have ca : wr.cell? ⟨b, j, none⟩ = some (.int .u32 (f j)) := by have h := hbk.cell hlt; rw [upto_at] at h; exact h
      have fp := hbk.frozen j
      obtain ⟨q1, q2⟩ := hf j hlt
      clear hf
      clear hb
      go_wp2_with fail
      go_still_tail 10, mixed
      still_call (flip_same (red2q_any (f j) _ ⟨q1, q2⟩))
      repeat still_step
      refine wpStill_nil ?_
      go_wp2_with fail
      go_roundw
      case rel =>
        refine ⟨j + 1, by omega, by go_num, (ho.drew).setCell _, ?_⟩
        have h1 := Blk.setCell (hbk.drew) j (ints .u32 (fun i => red2q (f i)) j)
        rw [upto_set (by rfl)] at h1
        exact h1
      case measure => simp [intOf]; omega
    · have hj' : j = 256 := by omega
      subst hj'
      go_wp2_with fail
      go_end0
      exact ⟨rfl, ho, by rw [upto_all] at hbk; exact hbk⟩


set_option maxRecDepth 100000 in
/-- place by place -/
theorem normalizeG_any (b : Nat) (w : World) (T : TypeId) (f : Nat → Int) (hb : Blk w b T (cellsF 256 (ints .u32 f))) (hf : ∀ i, i < 256 → 0 ≤ f i ∧ f i ≤ 4294967295) :
    Calls Try.prog 74 #[.pointer (some ⟨b, 0, none⟩)] w fun e w' => e = .returned (.tuple #[]) ∧ Only b w w' ∧ Blk w' b T (cellsF 256 (ints .u32 (fun i => f i % 8380417))) := by
  go_enter Try.func74, Try.ntmps74
  go_wp2_with fail
  go_loopw [2] (fun i wr => ∃ j : Nat, j ≤ 256 ∧ i = .int .u64 j ∧ Only b w wr ∧ Blk wr b T (cellsF 256 (upto j (ints .u32 (fun i => f i % 8380417)) (ints .u32 f)))) (fun i _ => 256 - (intOf i).toNat)
  case atStart => exact ⟨0, by omega, rfl, Only.refl _ _, by rw [upto_zero]; exact hb⟩
  case round =>
    obtain ⟨j, hj, rfl, ho, hbk⟩ := hrel
    by_cases hlt : j < 256
    · have ca : wr.cell? ⟨b, j, none⟩ = some (.int .u32 (f j)) := by have h := hbk.cell hlt; rw [upto_at] at h; exact h
      have fp := hbk.frozen j
      obtain ⟨q1, q2⟩ := hf j hlt
      clear hf
      clear hb
      go_wp2_with fail
      go_still_tail 10, mixed
      still_call (flip_same (modq_any (f j) _ ⟨q1, q2⟩))
      repeat still_step
      refine wpStill_nil ?_
      go_wp2_with fail
      go_roundw
      case rel =>
        refine ⟨j + 1, by omega, by go_num, (ho.drew).setCell _, ?_⟩
        have h1 := Blk.setCell (hbk.drew) j (ints .u32 (fun i => f i % 8380417) j)
        rw [upto_set (by rfl)] at h1
        exact h1
      case measure => simp [intOf]; omega
    · have hj' : j = 256 := by omega
      subst hj'
      go_wp2_with fail
      go_end0
      exact ⟨rfl, ho, by rw [upto_all] at hbk; exact hbk⟩


set_option maxRecDepth 100000 in
/-- place by place -/
theorem normalize2G_any (b : Nat) (w : World) (T : TypeId) (f : Nat → Int) (hb : Blk w b T (cellsF 256 (ints .u32 f))) (hf : ∀ i, i < 256 → 0 ≤ f i ∧ f i < 16760834) :
    Calls Try.prog 75 #[.pointer (some ⟨b, 0, none⟩)] w fun e w' => e = .returned (.tuple #[]) ∧ Only b w w' ∧ Blk w' b T (cellsF 256 (ints .u32 (fun i => f i % 8380417))) := by
  go_enter Try.func75, Try.ntmps75
  go_wp2_with fail
  go_loopw [2] (fun i wr => ∃ j : Nat, j ≤ 256 ∧ i = .int .i64 j ∧ Only b w wr ∧ Blk wr b T (cellsF 256 (upto j (ints .u32 (fun i => f i % 8380417)) (ints .u32 f)))) (fun i _ => 256 - (intOf i).toNat)
  case atStart => exact ⟨0, by omega, rfl, Only.refl _ _, by rw [upto_zero]; exact hb⟩
  case round =>
    obtain ⟨j, hj, rfl, ho, hbk⟩ := hrel
    by_cases hlt : j < 256
    · have ca : wr.cell? ⟨b, j, none⟩ = some (.int .u32 (f j)) := by have h := hbk.cell hlt; rw [upto_at] at h; exact h
      have fp := hbk.frozen j
      obtain ⟨q1, q2⟩ := hf j hlt
      clear hf
      clear hb
      go_wp2_with fail
      go_still_tail 10, mixed
      still_call (flip_same (le2q_any (f j) _ ⟨q1, q2⟩))
      repeat still_step
      refine wpStill_nil ?_
      go_wp2_with fail
      go_roundw
      case rel =>
        refine ⟨j + 1, by omega, by go_num, (ho.drew).setCell _, ?_⟩
        have h1 := Blk.setCell (hbk.drew) j (ints .u32 (fun i => f i % 8380417) j)
        rw [upto_set (by rfl)] at h1
        exact h1
      case measure => simp [intOf]; omega
    · have hj' : j = 256 := by omega
      subst hj'
      go_wp2_with fail
      go_end0
      exact ⟨rfl, ho, by rw [upto_all] at hbk; exact hbk⟩


theorem reduceM_any (b : Nat) (w : World) (T : TypeId) (f : Nat → Int) (hb : Blk w b T (cellsF 256 (ints .u32 f))) (hf : ∀ i, i < 256 → 0 ≤ f i ∧ f i ≤ 4294967295) :
    Calls Try.prog 45 #[.pointer (some ⟨b, 0, none⟩)] w fun e w' => e = .returned (.tuple #[]) ∧ Only b w w' ∧ Blk w' b T (cellsF 256 (ints .u32 (fun i => red2q (f i)))) := by
  have H := Lib.hid (reduceG_any b w T f hb hf)
  clear hb
  go_enter Try.func45, Try.ntmps45
  go_wp2_with (go_at_call 66; refine H.out.mono ?_; rintro e w' ⟨rfl, hq⟩)
  go_end0
  exact ⟨rfl, hq⟩


theorem normalizeM_any (b : Nat) (w : World) (T : TypeId) (f : Nat → Int) (hb : Blk w b T (cellsF 256 (ints .u32 f))) (hf : ∀ i, i < 256 → 0 ≤ f i ∧ f i ≤ 4294967295) :
    Calls Try.prog 54 #[.pointer (some ⟨b, 0, none⟩)] w fun e w' => e = .returned (.tuple #[]) ∧ Only b w w' ∧ Blk w' b T (cellsF 256 (ints .u32 (fun i => f i % 8380417))) := by
  have H := Lib.hid (normalizeG_any b w T f hb hf)
  clear hb
  go_enter Try.func54, Try.ntmps54
  go_wp2_with (go_at_call 74; refine H.out.mono ?_; rintro e w' ⟨rfl, hq⟩)
  go_end0
  exact ⟨rfl, hq⟩


theorem normalize2M_any (b : Nat) (w : World) (T : TypeId) (f : Nat → Int) (hb : Blk w b T (cellsF 256 (ints .u32 f))) (hf : ∀ i, i < 256 → 0 ≤ f i ∧ f i < 16760834) :
    Calls Try.prog 55 #[.pointer (some ⟨b, 0, none⟩)] w fun e w' => e = .returned (.tuple #[]) ∧ Only b w w' ∧ Blk w' b T (cellsF 256 (ints .u32 (fun i => f i % 8380417))) := by
  have H := Lib.hid (normalize2G_any b w T f hb hf)
  clear hb
  go_enter Try.func55, Try.ntmps55
  go_wp2_with (go_at_call 75; refine H.out.mono ?_; rintro e w' ⟨rfl, hq⟩)
  go_end0
  exact ⟨rfl, hq⟩


/-- the wrapper of a method -/
theorem dReduce_any (f : Nat → Int) (w : World) (hf : ∀ i, i < 256 → 0 ≤ f i ∧ f i ≤ 4294967295) : Calls Try.prog 19 #[.agg (cellsF 256 (ints .u32 f))] w fun e w' => e = .returned (.agg (cellsF 256 (ints .u32 (fun i => red2q (f i))))) ∧ Ext w w' := by
  go_enter Try.func19, Try.ntmps19
  refine wp_region_then ?_
  refine wpList_boxA 27 (.tmp 0) _ rfl rfl rfl ?_
  simp only [Act.put, List.setIfInBounds_toArray, List.set]
  intro w1 bp hp x1 kp
  have X1 := Ext.trans (Ext.refl w) x1
  have z1 := x1.size
  have lp := kp.lt
  refine wpList_allocA 27 _ _ zeroK rfl rfl ?_
  simp only [Act.put, List.setIfInBounds_toArray, List.set]
  intro w2 br hr x2 kr
  have X2 := Ext.trans X1 x2
  have z2 := x2.size
  replace kp := kp.ext x2
  have lr := kr.lt
  refine wp_next (wp_region_then ?_)
  refine wpList_loadA arrK (.tmp 1) bp _ kp (size_cellsF _ _) rfl rfl rfl ?_
  simp only [Act.put, List.setIfInBounds_toArray, List.set]
  refine wpList_allocA 52 _ _ zeroP rfl rfl ?_
  simp only [Act.put, List.setIfInBounds_toArray, List.set]
  intro w3 bx hx x3 kx
  have X3 := Ext.trans X2 x3
  have z3 := x3.size
  replace kp := kp.ext x3
  replace kr := kr.ext x3
  have lx := kx.lt
  refine wpList_storeA arrP (.tmp 3) (.tmp 4) bx _ _ kx (size_cellsF _ _) (size_cellsF _ _) (one_cellsF _ _ _) rfl rfl rfl rfl ?_
  simp only [Act.put]
  clear kx
  intro w4 o4 kx
  have X4 := o4.ext X3 (by omega)
  have z4 := o4.size
  replace kp := o4.blk (by omega) kp
  replace kr := o4.blk (by omega) kr
  refine wp_next (wp_region_then ?_)
  refine wpList_call0 _ _ Try.func45 (by kernel_rfl) (by kernel_rfl) rfl rfl (reduceM_any bx _ _ f kx hf) ?_
  simp only [Act.put, List.setIfInBounds_toArray, List.set]
  clear kx
  rintro w5 ⟨o5, kx⟩
  have X5 := o5.ext X4 (by omega)
  have z5 := o5.size
  replace kp := o5.blk (by omega) kp
  replace kr := o5.blk (by omega) kr
  refine wp_next (wp_region_then ?_)
  refine wpList_loadA arrP (.tmp 3) bx _ kx (size_cellsF _ _) rfl rfl rfl ?_
  simp only [Act.put, List.setIfInBounds_toArray, List.set]
  refine wpList_storeA arrK (.tmp 2) (.tmp 6) br _ _ kr (size_cellsF _ _) (size_cellsF _ _) (one_cellsF _ _ _) rfl rfl rfl rfl ?_
  simp only [Act.put]
  clear kr
  intro w6 o6 kr
  have X6 := o6.ext X5 (by omega)
  have z6 := o6.size
  replace kp := o6.blk (by omega) kp
  replace kx := o6.blk (by omega) kx
  refine wp_next (wp_ret ?_)
  exact bodyPost_cellA arrK rfl br _ kr (size_cellsF _ _) rfl rfl ⟨rfl, X6⟩


/-- the wrapper of a method -/
theorem dNormalize_any (f : Nat → Int) (w : World) (hf : ∀ i, i < 256 → 0 ≤ f i ∧ f i ≤ 4294967295) : Calls Try.prog 32 #[.agg (cellsF 256 (ints .u32 f))] w fun e w' => e = .returned (.agg (cellsF 256 (ints .u32 (fun i => f i % 8380417)))) ∧ Ext w w' := by
  go_enter Try.func32, Try.ntmps32
  refine wp_region_then ?_
  refine wpList_boxA 27 (.tmp 0) _ rfl rfl rfl ?_
  simp only [Act.put, List.setIfInBounds_toArray, List.set]
  intro w1 bp hp x1 kp
  have X1 := Ext.trans (Ext.refl w) x1
  have z1 := x1.size
  have lp := kp.lt
  refine wpList_allocA 27 _ _ zeroK rfl rfl ?_
  simp only [Act.put, List.setIfInBounds_toArray, List.set]
  intro w2 br hr x2 kr
  have X2 := Ext.trans X1 x2
  have z2 := x2.size
  replace kp := kp.ext x2
  have lr := kr.lt
  refine wp_next (wp_region_then ?_)
  refine wpList_loadA arrK (.tmp 1) bp _ kp (size_cellsF _ _) rfl rfl rfl ?_
  simp only [Act.put, List.setIfInBounds_toArray, List.set]
  refine wpList_allocA 52 _ _ zeroP rfl rfl ?_
  simp only [Act.put, List.setIfInBounds_toArray, List.set]
  intro w3 bx hx x3 kx
  have X3 := Ext.trans X2 x3
  have z3 := x3.size
  replace kp := kp.ext x3
  replace kr := kr.ext x3
  have lx := kx.lt
  refine wpList_storeA arrP (.tmp 3) (.tmp 4) bx _ _ kx (size_cellsF _ _) (size_cellsF _ _) (one_cellsF _ _ _) rfl rfl rfl rfl ?_
  simp only [Act.put]
  clear kx
  intro w4 o4 kx
  have X4 := o4.ext X3 (by omega)
  have z4 := o4.size
  replace kp := o4.blk (by omega) kp
  replace kr := o4.blk (by omega) kr
  refine wp_next (wp_region_then ?_)
  refine wpList_call0 _ _ Try.func54 (by kernel_rfl) (by kernel_rfl) rfl rfl (normalizeM_any bx _ _ f kx hf) ?_
  simp only [Act.put, List.setIfInBounds_toArray, List.set]
  clear kx
  rintro w5 ⟨o5, kx⟩
  have X5 := o5.ext X4 (by omega)
  have z5 := o5.size
  replace kp := o5.blk (by omega) kp
  replace kr := o5.blk (by omega) kr
  refine wp_next (wp_region_then ?_)
  refine wpList_loadA arrP (.tmp 3) bx _ kx (size_cellsF _ _) rfl rfl rfl ?_
  simp only [Act.put, List.setIfInBounds_toArray, List.set]
  refine wpList_storeA arrK (.tmp 2) (.tmp 6) br _ _ kr (size_cellsF _ _) (size_cellsF _ _) (one_cellsF _ _ _) rfl rfl rfl rfl ?_
  simp only [Act.put]
  clear kr
  intro w6 o6 kr
  have X6 := o6.ext X5 (by omega)
  have z6 := o6.size
  replace kp := o6.blk (by omega) kp
  replace kx := o6.blk (by omega) kx
  refine wp_next (wp_ret ?_)
  exact bodyPost_cellA arrK rfl br _ kr (size_cellsF _ _) rfl rfl ⟨rfl, X6⟩


/-- the wrapper of a method -/
theorem dNormalize2_any (f : Nat → Int) (w : World) (hf : ∀ i, i < 256 → 0 ≤ f i ∧ f i < 16760834) : Calls Try.prog 33 #[.agg (cellsF 256 (ints .u32 f))] w fun e w' => e = .returned (.agg (cellsF 256 (ints .u32 (fun i => f i % 8380417)))) ∧ Ext w w' := by
  go_enter Try.func33, Try.ntmps33
  refine wp_region_then ?_
  refine wpList_boxA 27 (.tmp 0) _ rfl rfl rfl ?_
  simp only [Act.put, List.setIfInBounds_toArray, List.set]
  intro w1 bp hp x1 kp
  have X1 := Ext.trans (Ext.refl w) x1
  have z1 := x1.size
  have lp := kp.lt
  refine wpList_allocA 27 _ _ zeroK rfl rfl ?_
  simp only [Act.put, List.setIfInBounds_toArray, List.set]
  intro w2 br hr x2 kr
  have X2 := Ext.trans X1 x2
  have z2 := x2.size
  replace kp := kp.ext x2
  have lr := kr.lt
  refine wp_next (wp_region_then ?_)
  refine wpList_loadA arrK (.tmp 1) bp _ kp (size_cellsF _ _) rfl rfl rfl ?_
  simp only [Act.put, List.setIfInBounds_toArray, List.set]
  refine wpList_allocA 52 _ _ zeroP rfl rfl ?_
  simp only [Act.put, List.setIfInBounds_toArray, List.set]
  intro w3 bx hx x3 kx
  have X3 := Ext.trans X2 x3
  have z3 := x3.size
  replace kp := kp.ext x3
  replace kr := kr.ext x3
  have lx := kx.lt
  refine wpList_storeA arrP (.tmp 3) (.tmp 4) bx _ _ kx (size_cellsF _ _) (size_cellsF _ _) (one_cellsF _ _ _) rfl rfl rfl rfl ?_
  simp only [Act.put]
  clear kx
  intro w4 o4 kx
  have X4 := o4.ext X3 (by omega)
  have z4 := o4.size
  replace kp := o4.blk (by omega) kp
  replace kr := o4.blk (by omega) kr
  refine wp_next (wp_region_then ?_)
  refine wpList_call0 _ _ Try.func55 (by kernel_rfl) (by kernel_rfl) rfl rfl (normalize2M_any bx _ _ f kx hf) ?_
  simp only [Act.put, List.setIfInBounds_toArray, List.set]
  clear kx
  rintro w5 ⟨o5, kx⟩
  have X5 := o5.ext X4 (by omega)
  have z5 := o5.size
  replace kp := o5.blk (by omega) kp
  replace kr := o5.blk (by omega) kr
  refine wp_next (wp_region_then ?_)
  refine wpList_loadA arrP (.tmp 3) bx _ kx (size_cellsF _ _) rfl rfl rfl ?_
  simp only [Act.put, List.setIfInBounds_toArray, List.set]
  refine wpList_storeA arrK (.tmp 2) (.tmp 6) br _ _ kr (size_cellsF _ _) (size_cellsF _ _) (one_cellsF _ _ _) rfl rfl rfl rfl ?_
  simp only [Act.put]
  clear kr
  intro w6 o6 kr
  have X6 := o6.ext X5 (by omega)
  have z6 := o6.size
  replace kp := o6.blk (by omega) kp
  replace kx := o6.blk (by omega) kx
  refine wp_next (wp_ret ?_)
  exact bodyPost_cellA arrK rfl br _ kr (size_cellsF _ _) rfl rfl ⟨rfl, X6⟩


set_option maxRecDepth 100000 in
set_option maxHeartbeats 1000000 in
theorem addG_any (bp ba bb : Nat) (w : World) (gp : Nat → Value) (fa fb : Nat → Int) (T1 T2 T3 : TypeId) (hp : Blk w bp T1 (cellsF 256 gp)) (ha : Blk w ba T2 (cellsF 256 (ints .u32 fa))) (hb : Blk w bb T3 (cellsF 256 (ints .u32 fb)))
    (hpa : ba ≠ bp) (hpb : bb ≠ bp) :
    Calls Try.prog 70 #[.pointer (some ⟨bp, 0, none⟩), .pointer (some ⟨ba, 0, none⟩), .pointer (some ⟨bb, 0, none⟩)] w
      fun e w' => e = .returned (.tuple #[]) ∧ Only bp w w' ∧ Blk w' bp T1 (cellsF 256 (ints .u32 (fun i => (IntKind.u32.wrap (fa i + fb i))))) := by
  go_enter Try.func70, Try.ntmps70
  go_wp2_with fail
  go_loopw [6] (fun i wr => ∃ k : Nat, k ≤ 256 ∧ i = .int .u64 k ∧ Only bp w wr ∧ Blk wr bp T1 (cellsF 256 (upto k (ints .u32 (fun i => (IntKind.u32.wrap (fa i + fb i)))) gp))) (fun i _ => 256 - (intOf i).toNat)
  case atStart => exact ⟨0, by omega, rfl, Only.refl _ _, by rw [upto_zero]; exact hp⟩
  case round =>
    obtain ⟨k, hk, rfl, ho, hbk⟩ := hrel
    by_cases hlt : k < 256
    · have ca : wr.cell? ⟨ba, k, none⟩ = some (.int .u32 (fa k)) := (ho.blk hpa ha).cell hlt
      have cb : wr.cell? ⟨bb, k, none⟩ = some (.int .u32 (fb k)) := (ho.blk hpb hb).cell hlt
      have cp := hbk.cell hlt
      have fp := hbk.frozen k
      clear hp ha hb hpa hpb
      go_wp2_with fail
      go_still_tail 15, mixed
      go_wp2_with fail
      go_roundw
      case rel =>
        refine ⟨k + 1, by omega, by go_num, (ho.drew).setCell _, ?_⟩
        have h1 := Blk.setCell (hbk.drew) k (.int .u32 (IntKind.u32.wrap ((fa k) + (fb k))))
        rw [upto_set (by rfl)] at h1
        exact h1
      case measure => simp [intOf]; omega
    · have hk' : k = 256 := by omega
      subst hk'
      go_wp2_with fail
      go_end0
      exact ⟨rfl, ho, by rw [upto_all] at hbk; exact hbk⟩
theorem addM_any (bp ba bb : Nat) (w : World) (gp : Nat → Value) (fa fb : Nat → Int) (T1 T2 T3 : TypeId) (hp : Blk w bp T1 (cellsF 256 gp)) (ha : Blk w ba T2 (cellsF 256 (ints .u32 fa))) (hb : Blk w bb T3 (cellsF 256 (ints .u32 fb)))
    (hpa : ba ≠ bp) (hpb : bb ≠ bp) :
    Calls Try.prog 50 #[.pointer (some ⟨bp, 0, none⟩), .pointer (some ⟨ba, 0, none⟩), .pointer (some ⟨bb, 0, none⟩)] w
      fun e w' => e = .returned (.tuple #[]) ∧ Only bp w w' ∧ Blk w' bp T1 (cellsF 256 (ints .u32 (fun i => (IntKind.u32.wrap (fa i + fb i))))) := by
  have H := Lib.hid (addG_any bp ba bb w gp fa fb T1 T2 T3 hp ha hb hpa hpb)
  clear hp ha hb hpa hpb
  go_enter Try.func50, Try.ntmps50
  go_wp2_with (go_at_call 70; refine H.out.mono ?_; rintro e w' ⟨rfl, hq⟩)
  go_end0
  exact ⟨rfl, hq⟩


/-- the wrapper of a method of two polynomials -/
theorem dAdd_any (f g : Nat → Int) (w : World) : Calls Try.prog 26 #[.agg (cellsF 256 (ints .u32 f)), .agg (cellsF 256 (ints .u32 g))] w fun e w' => e = .returned (.agg (cellsF 256 (ints .u32 (fun i => (IntKind.u32.wrap (f i + g i)))))) ∧ Ext w w' := by
  go_enter Try.func26, Try.ntmps26
  refine wp_region_then ?_
  refine wpList_boxA 27 (.tmp 0) _ rfl rfl rfl ?_
  simp only [Act.put, List.setIfInBounds_toArray, List.set]
  intro w1 ba ha x1 ka
  have X1 := Ext.trans (Ext.refl w) x1
  have z1 := x1.size
  have la := ka.lt
  refine wpList_boxA 27 (.tmp 1) _ rfl rfl rfl ?_
  simp only [Act.put, List.setIfInBounds_toArray, List.set]
  intro w2 bc hc x2 kc
  have X2 := Ext.trans X1 x2
  have z2 := x2.size
  replace ka := ka.ext x2
  have lc := kc.lt
  refine wpList_allocA 27 _ _ zeroK rfl rfl ?_
  simp only [Act.put, List.setIfInBounds_toArray, List.set]
  intro w3 br hr x3 kr
  have X3 := Ext.trans X2 x3
  have z3 := x3.size
  replace ka := ka.ext x3
  replace kc := kc.ext x3
  have lr := kr.lt
  refine wp_next (wp_region_then ?_)
  refine wpList_allocA 52 _ _ zeroP rfl rfl ?_
  simp only [Act.put, List.setIfInBounds_toArray, List.set]
  intro w4 bo ho x4 ko
  have X4 := Ext.trans X3 x4
  have z4 := x4.size
  replace ka := ka.ext x4
  replace kc := kc.ext x4
  replace kr := kr.ext x4
  have lo := ko.lt
  refine wp_next (wp_seq ?_)
  refine wp_region_two 2 _ _ _ _ 52 52 256 256 6 7 (.tmp 8) (.tmp 9) _ _ mixed (by kernel_rfl) rfl arrP arrP zeroP zeroP (size_cellsF _ _) (size_cellsF _ _) ⟨rfl, rfl, rfl⟩ ⟨rfl, rfl, rfl⟩ ⟨rfl, rfl, rfl⟩ ⟨rfl, rfl, rfl⟩ (by decide) ?_
  simp only [List.take_succ_cons, List.take_zero]
  refine wpDet_loadA arrK (.tmp 2) ba _ ka (size_cellsF _ _) rfl rfl rfl ?_
  simp only [Act.put, List.setIfInBounds_toArray, List.set]
  refine wpDet_loadA arrK (.tmp 3) bc _ kc (size_cellsF _ _) rfl rfl rfl ?_
  simp only [Act.put, List.setIfInBounds_toArray, List.set]
  refine ⟨_, _, size_cellsF _ _, size_cellsF _ _, one_cellsF _ _ _, one_cellsF _ _ _, fun _ _ => ⟨rfl, rfl, rfl, rfl⟩, ?_⟩
  intro bx bv w5 hx hv hne5 x5 kx kv
  simp only [List.setIfInBounds_toArray, List.set]
  have X5 := Ext.trans X4 x5
  have z5 := x5.size
  replace ka := ka.ext x5
  replace kc := kc.ext x5
  replace kr := kr.ext x5
  replace ko := ko.ext x5
  have lx := kx.lt
  have lv := kv.lt
  refine wp_then (wp_region_then ?_)
  refine wpList_call0 _ _ Try.func50 (by kernel_rfl) (by kernel_rfl) rfl rfl (addM_any bo bx bv _ _ f g _ _ _ ko kx kv (by omega) (by omega)) ?_
  simp only [Act.put, List.setIfInBounds_toArray, List.set]
  clear ko
  rintro w6 ⟨o6, ko⟩
  have X6 := o6.ext X5 (by omega)
  have z6 := o6.size
  replace ka := o6.blk (by omega) ka
  replace kc := o6.blk (by omega) kc
  replace kr := o6.blk (by omega) kr
  replace kx := o6.blk (by omega) kx
  replace kv := o6.blk (by omega) kv
  refine wp_next (wp_region_then ?_)
  refine wpList_loadA arrP (.tmp 5) bo _ ko (size_cellsF _ _) rfl rfl rfl ?_
  simp only [Act.put, List.setIfInBounds_toArray, List.set]
  refine wpList_storeA arrK (.tmp 4) (.tmp 11) br _ _ kr (size_cellsF _ _) (size_cellsF _ _) (one_cellsF _ _ _) rfl rfl rfl rfl ?_
  simp only [Act.put]
  clear kr
  intro w7 o7 kr
  have X7 := o7.ext X6 (by omega)
  have z7 := o7.size
  replace ka := o7.blk (by omega) ka
  replace kc := o7.blk (by omega) kc
  replace ko := o7.blk (by omega) ko
  replace kx := o7.blk (by omega) kx
  replace kv := o7.blk (by omega) kv
  refine wp_next (wp_ret ?_)
  exact bodyPost_cellA arrK rfl br _ kr (size_cellsF _ _) rfl rfl ⟨rfl, X7⟩


set_option maxRecDepth 100000 in
set_option maxHeartbeats 1000000 in
theorem subG_any (bp ba bb : Nat) (w : World) (gp : Nat → Value) (fa fb : Nat → Int) (T1 T2 T3 : TypeId) (hp : Blk w bp T1 (cellsF 256 gp)) (ha : Blk w ba T2 (cellsF 256 (ints .u32 fa))) (hb : Blk w bb T3 (cellsF 256 (ints .u32 fb)))
    (hpa : ba ≠ bp) (hpb : bb ≠ bp) :
    Calls Try.prog 71 #[.pointer (some ⟨bp, 0, none⟩), .pointer (some ⟨ba, 0, none⟩), .pointer (some ⟨bb, 0, none⟩)] w
      fun e w' => e = .returned (.tuple #[]) ∧ Only bp w w' ∧ Blk w' bp T1 (cellsF 256 (ints .u32 (fun i => ((fa i + (16760834 - fb i)) % 4294967296)))) := by
  go_enter Try.func71, Try.ntmps71
  go_wp2_with fail
  go_loopw [6] (fun i wr => ∃ k : Nat, k ≤ 256 ∧ i = .int .u64 k ∧ Only bp w wr ∧ Blk wr bp T1 (cellsF 256 (upto k (ints .u32 (fun i => ((fa i + (16760834 - fb i)) % 4294967296))) gp))) (fun i _ => 256 - (intOf i).toNat)
  case atStart => exact ⟨0, by omega, rfl, Only.refl _ _, by rw [upto_zero]; exact hp⟩
  case round =>
    obtain ⟨k, hk, rfl, ho, hbk⟩ := hrel
    by_cases hlt : k < 256
    · have ca : wr.cell? ⟨ba, k, none⟩ = some (.int .u32 (fa k)) := (ho.blk hpa ha).cell hlt
      have cb : wr.cell? ⟨bb, k, none⟩ = some (.int .u32 (fb k)) := (ho.blk hpb hb).cell hlt
      have cp := hbk.cell hlt
      have fp := hbk.frozen k
      clear hp ha hb hpa hpb
      go_wp2_with fail
      go_still_tail 16, mixed
      go_wp2_with fail
      go_roundw
      case rel =>
        refine ⟨k + 1, by omega, by go_num, (ho.drew).setCell _, ?_⟩
        have h1 := Blk.setCell (hbk.drew) k (.int .u32 (((fa k) + (16760834 - (fb k))) % 4294967296))
        rw [upto_set (by rfl)] at h1
        exact h1
      case measure => simp [intOf]; omega
    · have hk' : k = 256 := by omega
      subst hk'
      go_wp2_with fail
      go_end0
      exact ⟨rfl, ho, by rw [upto_all] at hbk; exact hbk⟩
theorem subM_any (bp ba bb : Nat) (w : World) (gp : Nat → Value) (fa fb : Nat → Int) (T1 T2 T3 : TypeId) (hp : Blk w bp T1 (cellsF 256 gp)) (ha : Blk w ba T2 (cellsF 256 (ints .u32 fa))) (hb : Blk w bb T3 (cellsF 256 (ints .u32 fb)))
    (hpa : ba ≠ bp) (hpb : bb ≠ bp) :
    Calls Try.prog 51 #[.pointer (some ⟨bp, 0, none⟩), .pointer (some ⟨ba, 0, none⟩), .pointer (some ⟨bb, 0, none⟩)] w
      fun e w' => e = .returned (.tuple #[]) ∧ Only bp w w' ∧ Blk w' bp T1 (cellsF 256 (ints .u32 (fun i => ((fa i + (16760834 - fb i)) % 4294967296)))) := by
  have H := Lib.hid (subG_any bp ba bb w gp fa fb T1 T2 T3 hp ha hb hpa hpb)
  clear hp ha hb hpa hpb
  go_enter Try.func51, Try.ntmps51
  go_wp2_with (go_at_call 71; refine H.out.mono ?_; rintro e w' ⟨rfl, hq⟩)
  go_end0
  exact ⟨rfl, hq⟩


/-- the wrapper of a method of two polynomials -/
theorem dSub_any (f g : Nat → Int) (w : World) : Calls Try.prog 27 #[.agg (cellsF 256 (ints .u32 f)), .agg (cellsF 256 (ints .u32 g))] w fun e w' => e = .returned (.agg (cellsF 256 (ints .u32 (fun i => ((f i + (16760834 - g i)) % 4294967296))))) ∧ Ext w w' := by
  go_enter Try.func27, Try.ntmps27
  refine wp_region_then ?_
  refine wpList_boxA 27 (.tmp 0) _ rfl rfl rfl ?_
  simp only [Act.put, List.setIfInBounds_toArray, List.set]
  intro w1 ba ha x1 ka
  have X1 := Ext.trans (Ext.refl w) x1
  have z1 := x1.size
  have la := ka.lt
  refine wpList_boxA 27 (.tmp 1) _ rfl rfl rfl ?_
  simp only [Act.put, List.setIfInBounds_toArray, List.set]
  intro w2 bc hc x2 kc
  have X2 := Ext.trans X1 x2
  have z2 := x2.size
  replace ka := ka.ext x2
  have lc := kc.lt
  refine wpList_allocA 27 _ _ zeroK rfl rfl ?_
  simp only [Act.put, List.setIfInBounds_toArray, List.set]
  intro w3 br hr x3 kr
  have X3 := Ext.trans X2 x3
  have z3 := x3.size
  replace ka := ka.ext x3
  replace kc := kc.ext x3
  have lr := kr.lt
  refine wp_next (wp_region_then ?_)
  refine wpList_allocA 52 _ _ zeroP rfl rfl ?_
  simp only [Act.put, List.setIfInBounds_toArray, List.set]
  intro w4 bo ho x4 ko
  have X4 := Ext.trans X3 x4
  have z4 := x4.size
  replace ka := ka.ext x4
  replace kc := kc.ext x4
  replace kr := kr.ext x4
  have lo := ko.lt
  refine wp_next (wp_seq ?_)
  refine wp_region_two 2 _ _ _ _ 52 52 256 256 6 7 (.tmp 8) (.tmp 9) _ _ mixed (by kernel_rfl) rfl arrP arrP zeroP zeroP (size_cellsF _ _) (size_cellsF _ _) ⟨rfl, rfl, rfl⟩ ⟨rfl, rfl, rfl⟩ ⟨rfl, rfl, rfl⟩ ⟨rfl, rfl, rfl⟩ (by decide) ?_
  simp only [List.take_succ_cons, List.take_zero]
  refine wpDet_loadA arrK (.tmp 2) ba _ ka (size_cellsF _ _) rfl rfl rfl ?_
  simp only [Act.put, List.setIfInBounds_toArray, List.set]
  refine wpDet_loadA arrK (.tmp 3) bc _ kc (size_cellsF _ _) rfl rfl rfl ?_
  simp only [Act.put, List.setIfInBounds_toArray, List.set]
  refine ⟨_, _, size_cellsF _ _, size_cellsF _ _, one_cellsF _ _ _, one_cellsF _ _ _, fun _ _ => ⟨rfl, rfl, rfl, rfl⟩, ?_⟩
  intro bx bv w5 hx hv hne5 x5 kx kv
  simp only [List.setIfInBounds_toArray, List.set]
  have X5 := Ext.trans X4 x5
  have z5 := x5.size
  replace ka := ka.ext x5
  replace kc := kc.ext x5
  replace kr := kr.ext x5
  replace ko := ko.ext x5
  have lx := kx.lt
  have lv := kv.lt
  refine wp_then (wp_region_then ?_)
  refine wpList_call0 _ _ Try.func51 (by kernel_rfl) (by kernel_rfl) rfl rfl (subM_any bo bx bv _ _ f g _ _ _ ko kx kv (by omega) (by omega)) ?_
  simp only [Act.put, List.setIfInBounds_toArray, List.set]
  clear ko
  rintro w6 ⟨o6, ko⟩
  have X6 := o6.ext X5 (by omega)
  have z6 := o6.size
  replace ka := o6.blk (by omega) ka
  replace kc := o6.blk (by omega) kc
  replace kr := o6.blk (by omega) kr
  replace kx := o6.blk (by omega) kx
  replace kv := o6.blk (by omega) kv
  refine wp_next (wp_region_then ?_)
  refine wpList_loadA arrP (.tmp 5) bo _ ko (size_cellsF _ _) rfl rfl rfl ?_
  simp only [Act.put, List.setIfInBounds_toArray, List.set]
  refine wpList_storeA arrK (.tmp 4) (.tmp 11) br _ _ kr (size_cellsF _ _) (size_cellsF _ _) (one_cellsF _ _ _) rfl rfl rfl rfl ?_
  simp only [Act.put]
  clear kr
  intro w7 o7 kr
  have X7 := o7.ext X6 (by omega)
  have z7 := o7.size
  replace ka := o7.blk (by omega) ka
  replace kc := o7.blk (by omega) kc
  replace ko := o7.blk (by omega) ko
  replace kx := o7.blk (by omega) kx
  replace kv := o7.blk (by omega) kv
  refine wp_next (wp_ret ?_)
  exact bodyPost_cellA arrK rfl br _ kr (size_cellsF _ _) rfl rfl ⟨rfl, X7⟩


set_option maxRecDepth 100000 in
theorem mul2G_any (bp ba : Nat) (w : World) (gp : Nat → Value) (f : Nat → Int) (T1 T2 : TypeId) (hp : Blk w bp T1 (cellsF 256 gp)) (ha : Blk w ba T2 (cellsF 256 (ints .u32 f))) (hpa : ba ≠ bp) :
    Calls Try.prog 65 #[.pointer (some ⟨bp, 0, none⟩), .pointer (some ⟨ba, 0, none⟩)] w
      fun e w' => e = .returned (.tuple #[]) ∧ Only bp w w' ∧ Blk w' bp T1 (cellsF 256 (ints .u32 (fun i => IntKind.u32.wrap (f i * 8192)))) := by
  go_enter Try.func65, Try.ntmps65
  go_wp2_with fail
  go_loopw [4] (fun i wr => ∃ k : Nat, k ≤ 256 ∧ i = .int .i64 k ∧ Only bp w wr ∧ Blk wr bp T1 (cellsF 256 (upto k (ints .u32 (fun i => IntKind.u32.wrap (f i * 8192))) gp))) (fun i _ => 256 - (intOf i).toNat)
  case atStart => exact ⟨0, by omega, rfl, Only.refl _ _, by rw [upto_zero]; exact hp⟩
  case round =>
    obtain ⟨k, hk, rfl, ho, hbk⟩ := hrel
    by_cases hlt : k < 256
    · have ca : wr.cell? ⟨ba, k, none⟩ = some (.int .u32 (f k)) := (ho.blk hpa ha).cell hlt
      have cp := hbk.cell hlt
      have fp := hbk.frozen k
      clear hp ha hpa
      go_wp2_with fail
      go_still_tail 10, mixed
      go_wp2_with fail
      go_roundw
      case rel =>
        refine ⟨k + 1, by omega, by go_num, (ho.drew).setCell _, ?_⟩
        have h1 := Blk.setCell (hbk.drew) k (.int .u32 (IntKind.u32.wrap (f k * 8192)))
        rw [upto_set (by rfl)] at h1
        exact h1
      case measure => simp [intOf]; omega
    · have hk' : k = 256 := by omega
      subst hk'
      go_wp2_with fail
      go_end0
      exact ⟨rfl, ho, by rw [upto_all] at hbk; exact hbk⟩
theorem mul2M_any (bp ba : Nat) (w : World) (gp : Nat → Value) (f : Nat → Int) (T1 T2 : TypeId) (hp : Blk w bp T1 (cellsF 256 gp)) (ha : Blk w ba T2 (cellsF 256 (ints .u32 f))) (hpa : ba ≠ bp) :
    Calls Try.prog 44 #[.pointer (some ⟨bp, 0, none⟩), .pointer (some ⟨ba, 0, none⟩)] w
      fun e w' => e = .returned (.tuple #[]) ∧ Only bp w w' ∧ Blk w' bp T1 (cellsF 256 (ints .u32 (fun i => IntKind.u32.wrap (f i * 8192)))) := by
  have H := Lib.hid (mul2G_any bp ba w gp f T1 T2 hp ha hpa)
  clear hp ha hpa
  go_enter Try.func44, Try.ntmps44
  go_wp2_with (go_at_call 65; refine H.out.mono ?_; rintro e w' ⟨rfl, hq⟩)
  go_end0
  exact ⟨rfl, hq⟩


theorem dTimes_any (f : Nat → Int) (w : World) : Calls Try.prog 17 #[.agg (cellsF 256 (ints .u32 f))] w fun e w' => e = .returned (.agg (cellsF 256 (ints .u32 (fun i => IntKind.u32.wrap (f i * 8192))))) ∧ Ext w w' := by
  go_enter Try.func17, Try.ntmps17
  refine wp_region_then ?_
  refine wpList_boxA 27 (.tmp 0) _ rfl rfl rfl ?_
  simp only [Act.put, List.setIfInBounds_toArray, List.set]
  intro w1 bp hp x1 kp
  have X1 := Ext.trans (Ext.refl w) x1
  have z1 := x1.size
  have lp := kp.lt
  refine wpList_allocA 27 _ _ zeroK rfl rfl ?_
  simp only [Act.put, List.setIfInBounds_toArray, List.set]
  intro w2 br hr x2 kr
  have X2 := Ext.trans X1 x2
  have z2 := x2.size
  replace kp := kp.ext x2
  have lr := kr.lt
  refine wp_next (wp_region_then ?_)
  refine wpList_allocA 52 _ _ zeroP rfl rfl ?_
  simp only [Act.put, List.setIfInBounds_toArray, List.set]
  intro w3 bo ho x3 ko
  have X3 := Ext.trans X2 x3
  have z3 := x3.size
  replace kp := kp.ext x3
  replace kr := kr.ext x3
  have lo := ko.lt
  refine wp_next (wp_region_then ?_)
  refine wpList_loadA arrK (.tmp 1) bp _ kp (size_cellsF _ _) rfl rfl rfl ?_
  simp only [Act.put, List.setIfInBounds_toArray, List.set]
  refine wpList_allocA 52 _ _ zeroP rfl rfl ?_
  simp only [Act.put, List.setIfInBounds_toArray, List.set]
  intro w4 bx hx x4 kx
  have X4 := Ext.trans X3 x4
  have z4 := x4.size
  replace kp := kp.ext x4
  replace kr := kr.ext x4
  replace ko := ko.ext x4
  have lx := kx.lt
  refine wpList_storeA arrP (.tmp 4) (.tmp 5) bx _ _ kx (size_cellsF _ _) (size_cellsF _ _) (one_cellsF _ _ _) rfl rfl rfl rfl ?_
  simp only [Act.put]
  clear kx
  intro w5 o5 kx
  have X5 := o5.ext X4 (by omega)
  have z5 := o5.size
  replace kp := o5.blk (by omega) kp
  replace kr := o5.blk (by omega) kr
  replace ko := o5.blk (by omega) ko
  refine wp_next (wp_region_then ?_)
  refine wpList_call0 _ _ Try.func44 (by kernel_rfl) (by kernel_rfl) rfl rfl (mul2M_any bo bx _ _ f _ _ ko kx (by omega)) ?_
  simp only [Act.put, List.setIfInBounds_toArray, List.set]
  clear ko
  rintro w6 ⟨o6, ko⟩
  have X6 := o6.ext X5 (by omega)
  have z6 := o6.size
  replace kp := o6.blk (by omega) kp
  replace kr := o6.blk (by omega) kr
  replace kx := o6.blk (by omega) kx
  refine wp_next (wp_region_then ?_)
  refine wpList_loadA arrP (.tmp 3) bo _ ko (size_cellsF _ _) rfl rfl rfl ?_
  simp only [Act.put, List.setIfInBounds_toArray, List.set]
  refine wpList_storeA arrK (.tmp 2) (.tmp 7) br _ _ kr (size_cellsF _ _) (size_cellsF _ _) (one_cellsF _ _ _) rfl rfl rfl rfl ?_
  simp only [Act.put]
  clear kr
  intro w7 o7 kr
  have X7 := o7.ext X6 (by omega)
  have z7 := o7.size
  replace kp := o7.blk (by omega) kp
  replace ko := o7.blk (by omega) ko
  replace kx := o7.blk (by omega) kx
  refine wp_next (wp_ret ?_)
  exact bodyPost_cellA arrK rfl br _ kr (size_cellsF _ _) rfl rfl ⟨rfl, X7⟩

end Go.Proofs.Ytgkombmhadgioaa
