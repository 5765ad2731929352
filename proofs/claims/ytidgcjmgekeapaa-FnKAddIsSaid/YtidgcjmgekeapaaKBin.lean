/- Kyber's Poly.Add and Poly.Sub: sums and differences of 16 bits, place by place; their wrappers. -/
import Derived.Test.YtidgcjmgekeapaaKTab
import Derived.Test.YtidgcjmgekeapaaUpto
import Derived.Test.YtidgcjmgekeapaaTwo
import Derived.Lib.Hide
namespace Go.Proofs.Ytidgcjmgekeapaa
open Go Go.Proofs Go.RowKit Go.Kd

set_option maxRecDepth 100000 in
set_option maxHeartbeats 1000000 in
theorem addGeneric_any (bp ba bb : Nat) (w : World) (gp : Nat → Value) (fa fb : Nat → Int) (T1 T2 T3 : TypeId) (hp : Blk w bp T1 (cellsF 256 gp)) (ha : Blk w ba T2 (cellsF 256 (ints .i16 fa))) (hb : Blk w bb T3 (cellsF 256 (ints .i16 fb)))
    (hpa : ba ≠ bp) (hpb : bb ≠ bp) :
    Calls Try.prog 40 #[.pointer (some ⟨bp, 0, none⟩), .pointer (some ⟨ba, 0, none⟩), .pointer (some ⟨bb, 0, none⟩)] w
      fun e w' => e = .returned (.tuple #[]) ∧ Only bp w w' ∧ Blk w' bp T1 (cellsF 256 (ints .i16 fun i => IntKind.i16.wrap (fa i + fb i))) := by
  go_enter Try.func40, Try.ntmps40
  go_wp2_with fail
  go_loopw [6] (fun i wr => ∃ k : Nat, k ≤ 256 ∧ i = .int .i64 k ∧ Only bp w wr ∧ Blk wr bp T1 (cellsF 256 (upto k (ints .i16 fun i => IntKind.i16.wrap (fa i + fb i)) gp))) (fun i _ => 256 - (intOf i).toNat)
  case atStart => exact ⟨0, by omega, rfl, Only.refl _ _, by rw [upto_zero]; exact hp⟩
  case round =>
    obtain ⟨k, hk, rfl, ho, hbk⟩ := hrel
    by_cases hlt : k < 256
    · have ca : wr.cell? ⟨ba, k, none⟩ = some (.int .i16 (fa k)) := (ho.blk hpa ha).cell hlt
      have cb : wr.cell? ⟨bb, k, none⟩ = some (.int .i16 (fb k)) := (ho.blk hpb hb).cell hlt
      have cp := hbk.cell hlt
      have fp := hbk.frozen k
      clear hp ha hb hpa hpb
      go_wp2_with fail
      go_still_tail 15, mixed
      go_wp2_with fail
      go_roundw
      case rel =>
        refine ⟨k + 1, by omega, by go_num, (ho.drew).setCell _, ?_⟩
        have h1 := Blk.setCell (hbk.drew) k (.int .i16 (IntKind.i16.wrap (fa k + fb k)))
        rw [upto_set (by rfl)] at h1
        exact h1
      case measure => simp [intOf]; omega
    · have hk' : k = 256 := by omega
      subst hk'
      go_wp2_with fail
      go_end0
      exact ⟨rfl, ho, by rw [upto_all] at hbk; exact hbk⟩

set_option maxRecDepth 100000 in
set_option maxHeartbeats 1000000 in
theorem subGeneric_any (bp ba bb : Nat) (w : World) (gp : Nat → Value) (fa fb : Nat → Int) (T1 T2 T3 : TypeId) (hp : Blk w bp T1 (cellsF 256 gp)) (ha : Blk w ba T2 (cellsF 256 (ints .i16 fa))) (hb : Blk w bb T3 (cellsF 256 (ints .i16 fb)))
    (hpa : ba ≠ bp) (hpb : bb ≠ bp) :
    Calls Try.prog 41 #[.pointer (some ⟨bp, 0, none⟩), .pointer (some ⟨ba, 0, none⟩), .pointer (some ⟨bb, 0, none⟩)] w
      fun e w' => e = .returned (.tuple #[]) ∧ Only bp w w' ∧ Blk w' bp T1 (cellsF 256 (ints .i16 fun i => IntKind.i16.wrap (fa i - fb i))) := by
  go_enter Try.func41, Try.ntmps41
  go_wp2_with fail
  go_loopw [6] (fun i wr => ∃ k : Nat, k ≤ 256 ∧ i = .int .i64 k ∧ Only bp w wr ∧ Blk wr bp T1 (cellsF 256 (upto k (ints .i16 fun i => IntKind.i16.wrap (fa i - fb i)) gp))) (fun i _ => 256 - (intOf i).toNat)
  case atStart => exact ⟨0, by omega, rfl, Only.refl _ _, by rw [upto_zero]; exact hp⟩
  case round =>
    obtain ⟨k, hk, rfl, ho, hbk⟩ := hrel
    by_cases hlt : k < 256
    · have ca : wr.cell? ⟨ba, k, none⟩ = some (.int .i16 (fa k)) := (ho.blk hpa ha).cell hlt
      have cb : wr.cell? ⟨bb, k, none⟩ = some (.int .i16 (fb k)) := (ho.blk hpb hb).cell hlt
      have cp := hbk.cell hlt
      have fp := hbk.frozen k
      clear hp ha hb hpa hpb
      go_wp2_with fail
      go_still_tail 15, mixed
      go_wp2_with fail
      go_roundw
      case rel =>
        refine ⟨k + 1, by omega, by go_num, (ho.drew).setCell _, ?_⟩
        have h1 := Blk.setCell (hbk.drew) k (.int .i16 (IntKind.i16.wrap (fa k - fb k)))
        rw [upto_set (by rfl)] at h1
        exact h1
      case measure => simp [intOf]; omega
    · have hk' : k = 256 := by omega
      subst hk'
      go_wp2_with fail
      go_end0
      exact ⟨rfl, ho, by rw [upto_all] at hbk; exact hbk⟩

theorem addM_any (bp ba bb : Nat) (w : World) (gp : Nat → Value) (fa fb : Nat → Int) (T1 T2 T3 : TypeId) (hp : Blk w bp T1 (cellsF 256 gp)) (ha : Blk w ba T2 (cellsF 256 (ints .i16 fa))) (hb : Blk w bb T3 (cellsF 256 (ints .i16 fb)))
    (hpa : ba ≠ bp) (hpb : bb ≠ bp) :
    Calls Try.prog 31 #[.pointer (some ⟨bp, 0, none⟩), .pointer (some ⟨ba, 0, none⟩), .pointer (some ⟨bb, 0, none⟩)] w
      fun e w' => e = .returned (.tuple #[]) ∧ Only bp w w' ∧ Blk w' bp T1 (cellsF 256 (ints .i16 (fun i => IntKind.i16.wrap (fa i + fb i)))) := by
  have H := Lib.hid (addGeneric_any bp ba bb w gp fa fb T1 T2 T3 hp ha hb hpa hpb)
  clear hp ha hb hpa hpb
  go_enter Try.func31, Try.ntmps31
  go_wp2_with (go_at_call 40; refine H.out.mono ?_; rintro e w' ⟨rfl, hq⟩)
  go_end0
  exact ⟨rfl, hq⟩

/-- the wrapper of a method of two polynomials -/
theorem kAdd_any (f g : Nat → Int) (w : World) : Calls Try.prog 14 #[.agg (cellsF 256 (ints .i16 f)), .agg (cellsF 256 (ints .i16 g))] w fun e w' => e = .returned (.agg (cellsF 256 (ints .i16 (fun i => IntKind.i16.wrap (f i + g i))))) ∧ Ext w w' := by
  go_enter Try.func14, Try.ntmps14
  refine wp_region_then ?_
  refine wpList_boxA 25 (.tmp 0) _ rfl rfl rfl ?_
  simp only [Act.put, List.setIfInBounds_toArray, List.set]
  intro w1 ba ha x1 ka
  have X1 := Ext.trans (Ext.refl w) x1
  have z1 := x1.size
  have la := ka.lt
  refine wpList_boxA 25 (.tmp 1) _ rfl rfl rfl ?_
  simp only [Act.put, List.setIfInBounds_toArray, List.set]
  intro w2 bc hc x2 kc
  have X2 := Ext.trans X1 x2
  have z2 := x2.size
  replace ka := ka.ext x2
  have lc := kc.lt
  refine wpList_allocA 25 _ _ zeroK rfl rfl ?_
  simp only [Act.put, List.setIfInBounds_toArray, List.set]
  intro w3 br hr x3 kr
  have X3 := Ext.trans X2 x3
  have z3 := x3.size
  replace ka := ka.ext x3
  replace kc := kc.ext x3
  have lr := kr.lt
  refine wp_next (wp_region_then ?_)
  refine wpList_allocA 40 _ _ zeroP rfl rfl ?_
  simp only [Act.put, List.setIfInBounds_toArray, List.set]
  intro w4 bo ho x4 ko
  have X4 := Ext.trans X3 x4
  have z4 := x4.size
  replace ka := ka.ext x4
  replace kc := kc.ext x4
  replace kr := kr.ext x4
  have lo := ko.lt
  refine wp_next (wp_seq ?_)
  refine wp_region_two 2 _ _ _ _ 40 40 256 256 6 7 (.tmp 8) (.tmp 9) _ _ mixed (by kernel_rfl) rfl arrP arrP zeroP zeroP (size_cellsF _ _) (size_cellsF _ _) ⟨rfl, rfl, rfl⟩ ⟨rfl, rfl, rfl⟩ ⟨rfl, rfl, rfl⟩ ⟨rfl, rfl, rfl⟩ (by decide) ?_
  simp only [List.take_succ_cons, List.take_zero]
  refine wpDet_loadA arrK (.tmp 2) ba _ ka (size_cellsF _ _) rfl rfl rfl ?_
  simp only [Act.put, List.setIfInBounds_toArray, List.set]
  refine wpDet_loadA arrK (.tmp 3) bc _ kc (size_cellsF _ _) rfl rfl rfl ?_
  simp only [Act.put, List.setIfInBounds_toArray, List.set]
  refine ⟨_, _, size_cellsF _ _, size_cellsF _ _, one_cellsF _ _ _, one_cellsF _ _ _, fun _ _ => ⟨rfl, rfl, rfl, rfl⟩, ?_⟩
  intro bx bv w5 hx hv hne5 x5 kx kv
  simp only [List.setIfInBounds_toArray, List.set]
  have X5 := Ext.trans X4 x5
  have z5 := x5.size
  replace ka := ka.ext x5
  replace kc := kc.ext x5
  replace kr := kr.ext x5
  replace ko := ko.ext x5
  have lx := kx.lt
  have lv := kv.lt
  refine wp_then (wp_region_then ?_)
  refine wpList_call0 _ _ Try.func31 (by kernel_rfl) (by kernel_rfl) rfl rfl (addM_any bo bx bv _ _ f g _ _ _ ko kx kv (by omega) (by omega)) ?_
  simp only [Act.put, List.setIfInBounds_toArray, List.set]
  clear ko
  rintro w6 ⟨o6, ko⟩
  have X6 := o6.ext X5 (by omega)
  have z6 := o6.size
  replace ka := o6.blk (by omega) ka
  replace kc := o6.blk (by omega) kc
  replace kr := o6.blk (by omega) kr
  replace kx := o6.blk (by omega) kx
  replace kv := o6.blk (by omega) kv
  refine wp_next (wp_region_then ?_)
  refine wpList_loadA arrP (.tmp 5) bo _ ko (size_cellsF _ _) rfl rfl rfl ?_
  simp only [Act.put, List.setIfInBounds_toArray, List.set]
  refine wpList_storeA arrK (.tmp 4) (.tmp 11) br _ _ kr (size_cellsF _ _) (size_cellsF _ _) (one_cellsF _ _ _) rfl rfl rfl rfl ?_
  simp only [Act.put]
  clear kr
  intro w7 o7 kr
  have X7 := o7.ext X6 (by omega)
  have z7 := o7.size
  replace ka := o7.blk (by omega) ka
  replace kc := o7.blk (by omega) kc
  replace ko := o7.blk (by omega) ko
  replace kx := o7.blk (by omega) kx
  replace kv := o7.blk (by omega) kv
  refine wp_next (wp_ret ?_)
  exact bodyPost_cellA arrK rfl br _ kr (size_cellsF _ _) rfl rfl ⟨rfl, X7⟩

theorem subM_any (bp ba bb : Nat) (w : World) (gp : Nat → Value) (fa fb : Nat → Int) (T1 T2 T3 : TypeId) (hp : Blk w bp T1 (cellsF 256 gp)) (ha : Blk w ba T2 (cellsF 256 (ints .i16 fa))) (hb : Blk w bb T3 (cellsF 256 (ints .i16 fb)))
    (hpa : ba ≠ bp) (hpb : bb ≠ bp) :
    Calls Try.prog 32 #[.pointer (some ⟨bp, 0, none⟩), .pointer (some ⟨ba, 0, none⟩), .pointer (some ⟨bb, 0, none⟩)] w
      fun e w' => e = .returned (.tuple #[]) ∧ Only bp w w' ∧ Blk w' bp T1 (cellsF 256 (ints .i16 (fun i => IntKind.i16.wrap (fa i - fb i)))) := by
  have H := Lib.hid (subGeneric_any bp ba bb w gp fa fb T1 T2 T3 hp ha hb hpa hpb)
  clear hp ha hb hpa hpb
  go_enter Try.func32, Try.ntmps32
  go_wp2_with (go_at_call 41; refine H.out.mono ?_; rintro e w' ⟨rfl, hq⟩)
  go_end0
  exact ⟨rfl, hq⟩

/-- the wrapper of a method of two polynomials -/
theorem kSub_any (f g : Nat → Int) (w : World) : Calls Try.prog 15 #[.agg (cellsF 256 (ints .i16 f)), .agg (cellsF 256 (ints .i16 g))] w fun e w' => e = .returned (.agg (cellsF 256 (ints .i16 (fun i => IntKind.i16.wrap (f i - g i))))) ∧ Ext w w' := by
  go_enter Try.func15, Try.ntmps15
  refine wp_region_then ?_
  refine wpList_boxA 25 (.tmp 0) _ rfl rfl rfl ?_
  simp only [Act.put, List.setIfInBounds_toArray, List.set]
  intro w1 ba ha x1 ka
  have X1 := Ext.trans (Ext.refl w) x1
  have z1 := x1.size
  have la := ka.lt
  refine wpList_boxA 25 (.tmp 1) _ rfl rfl rfl ?_
  simp only [Act.put, List.setIfInBounds_toArray, List.set]
  intro w2 bc hc x2 kc
  have X2 := Ext.trans X1 x2
  have z2 := x2.size
  replace ka := ka.ext x2
  have lc := kc.lt
  refine wpList_allocA 25 _ _ zeroK rfl rfl ?_
  simp only [Act.put, List.setIfInBounds_toArray, List.set]
  intro w3 br hr x3 kr
  have X3 := Ext.trans X2 x3
  have z3 := x3.size
  replace ka := ka.ext x3
  replace kc := kc.ext x3
  have lr := kr.lt
  refine wp_next (wp_region_then ?_)
  refine wpList_allocA 40 _ _ zeroP rfl rfl ?_
  simp only [Act.put, List.setIfInBounds_toArray, List.set]
  intro w4 bo ho x4 ko
  have X4 := Ext.trans X3 x4
  have z4 := x4.size
  replace ka := ka.ext x4
  replace kc := kc.ext x4
  replace kr := kr.ext x4
  have lo := ko.lt
  refine wp_next (wp_seq ?_)
  refine wp_region_two 2 _ _ _ _ 40 40 256 256 6 7 (.tmp 8) (.tmp 9) _ _ mixed (by kernel_rfl) rfl arrP arrP zeroP zeroP (size_cellsF _ _) (size_cellsF _ _) ⟨rfl, rfl, rfl⟩ ⟨rfl, rfl, rfl⟩ ⟨rfl, rfl, rfl⟩ ⟨rfl, rfl, rfl⟩ (by decide) ?_
  simp only [List.take_succ_cons, List.take_zero]
  refine wpDet_loadA arrK (.tmp 2) ba _ ka (size_cellsF _ _) rfl rfl rfl ?_
  simp only [Act.put, List.setIfInBounds_toArray, List.set]
  refine wpDet_loadA arrK (.tmp 3) bc _ kc (size_cellsF _ _) rfl rfl rfl ?_
  simp only [Act.put, List.setIfInBounds_toArray, List.set]
  refine ⟨_, _, size_cellsF _ _, size_cellsF _ _, one_cellsF _ _ _, one_cellsF _ _ _, fun _ _ => ⟨rfl, rfl, rfl, rfl⟩, ?_⟩
  intro bx bv w5 hx hv hne5 x5 kx kv
  simp only [List.setIfInBounds_toArray, List.set]
  have X5 := Ext.trans X4 x5
  have z5 := x5.size
  replace ka := ka.ext x5
  replace kc := kc.ext x5
  replace kr := kr.ext x5
  replace ko := ko.ext x5
  have lx := kx.lt
  have lv := kv.lt
  refine wp_then (wp_region_then ?_)
  refine wpList_call0 _ _ Try.func32 (by kernel_rfl) (by kernel_rfl) rfl rfl (subM_any bo bx bv _ _ f g _ _ _ ko kx kv (by omega) (by omega)) ?_
  simp only [Act.put, List.setIfInBounds_toArray, List.set]
  clear ko
  rintro w6 ⟨o6, ko⟩
  have X6 := o6.ext X5 (by omega)
  have z6 := o6.size
  replace ka := o6.blk (by omega) ka
  replace kc := o6.blk (by omega) kc
  replace kr := o6.blk (by omega) kr
  replace kx := o6.blk (by omega) kx
  replace kv := o6.blk (by omega) kv
  refine wp_next (wp_region_then ?_)
  refine wpList_loadA arrP (.tmp 5) bo _ ko (size_cellsF _ _) rfl rfl rfl ?_
  simp only [Act.put, List.setIfInBounds_toArray, List.set]
  refine wpList_storeA arrK (.tmp 4) (.tmp 11) br _ _ kr (size_cellsF _ _) (size_cellsF _ _) (one_cellsF _ _ _) rfl rfl rfl rfl ?_
  simp only [Act.put]
  clear kr
  intro w7 o7 kr
  have X7 := o7.ext X6 (by omega)
  have z7 := o7.size
  replace ka := o7.blk (by omega) ka
  replace kc := o7.blk (by omega) kc
  replace ko := o7.blk (by omega) ko
  replace kx := o7.blk (by omega) kx
  replace kv := o7.blk (by omega) kv
  refine wp_next (wp_ret ?_)
  exact bodyPost_cellA arrK rfl br _ kr (size_cellsF _ _) rfl rfl ⟨rfl, X7⟩

end Go.Proofs.Ytidgcjmgekeapaa
