/- laws.FnDAddIs returns true at every two polynomials. -/
import Derived.Test.YtgkombmhadgioaaDMap
import Derived.Test.YtgkombmhadgioaaDSpec
import Derived.Test.YtgkombmhadgioaaDMod
import Derived.Lib.Hide
namespace Go.Proofs.Ytgkombmhadgioaa.fnDAddIs
open Go Go.Proofs Go.RowKit Go.Kd
theorem dAdd_in (f g : Nat → Int) (w : World) (hb : ∀ i, i < 256 → 0 ≤ f i ∧ f i ≤ 4294967295) (hgb : ∀ i, i < 256 → 0 ≤ g i ∧ g i ≤ 4294967295) (h1 : ∀ i, i < 256 → f i < 2147483648) (h2 : ∀ i, i < 256 → g i < 16760834) : Calls Try.prog 26 #[.agg (cellsF 256 (ints .u32 f)), .agg (cellsF 256 (ints .u32 g))] w fun e w' => e = .returned (.agg (cellsF 256 (ints .u32 fun i => f i + g i))) ∧ Ext w w' :=
  (dAdd_any f g w).mono fun _ _ ⟨e1, e2⟩ => ⟨by rw [e1, ints_congr (g := fun i => f i + g i) fun i hi => by have := hb i hi; have := hgb i hi; have := h1 i hi; have := h2 i hi; show IntKind.u32.wrap _ = _; rw [IntKind.wrap_u32]; omega], e2⟩
theorem dSub_in (f g : Nat → Int) (w : World) (hb : ∀ i, i < 256 → 0 ≤ f i ∧ f i ≤ 4294967295) (hgb : ∀ i, i < 256 → 0 ≤ g i ∧ g i ≤ 4294967295) (h1 : ∀ i, i < 256 → f i < 2147483648) (h2 : ∀ i, i < 256 → g i < 16760834) : Calls Try.prog 27 #[.agg (cellsF 256 (ints .u32 f)), .agg (cellsF 256 (ints .u32 g))] w fun e w' => e = .returned (.agg (cellsF 256 (ints .u32 fun i => f i + 16760834 - g i))) ∧ Ext w w' :=
  (dSub_any f g w).mono fun _ _ ⟨e1, e2⟩ => ⟨by rw [e1, ints_congr (g := fun i => f i + 16760834 - g i) fun i hi => by have := hb i hi; have := hgb i hi; have := h1 i hi; have := h2 i hi; show _ % 4294967296 = _; omega], e2⟩

set_option maxRecDepth 100000 in
set_option maxHeartbeats 1000000 in
theorem walk (f : Nat → Int) (hf : ∀ i, i < 256 → (Lit.int .u32 (f i)).wf = true) (g : Nat → Int) (hg : ∀ i, i < 256 → (Lit.int .u32 (g i)).wf = true) (w : World) :
    Calls Try.prog 8 #[.agg (cellsF 256 (ints .u32 f)), .agg (cellsF 256 (ints .u32 g))] w fun e w' => e = .returned (.bool true) ∧ Ext w w' := by
  have hb : ∀ i, i < 256 → 0 ≤ f i ∧ f i ≤ 4294967295 := fun i hi => bounds_u32 (hf i hi)
  clear hf
  have hgb : ∀ i, i < 256 → 0 ≤ g i ∧ g i ≤ 4294967295 := fun i hi => bounds_u32 (hg i hi)
  clear hg
  go_enter Try.func8, Try.ntmps8
  refine wp_region_then ?_
  refine wpList_boxA 27 (.tmp 0) _ rfl rfl rfl ?_
  simp only [Act.put, List.setIfInBounds_toArray, List.set]
  intro w1 ba ha x1 ka
  have X1 := Ext.trans (Ext.refl w) x1
  have z1 := x1.size
  have la := ka.lt
  refine wpList_boxA 27 (.tmp 1) _ rfl rfl rfl ?_
  simp only [Act.put, List.setIfInBounds_toArray, List.set]
  intro w2 bc hc x2 kc
  have X2 := Ext.trans X1 x2
  have z2 := x2.size
  replace ka := ka.ext x2
  have lc := kc.lt
  refine wpList_val (v := .bool false) rfl rfl ?_
  simp only [Act.put, List.setIfInBounds_toArray, List.set]
  refine wp_next ?_
  rcases forallB_or 256 (fun i => f i < 2147483648) with ⟨he, hall⟩ | he
  · go_wp2_with (first | (refine wpList_loadA arrK (.tmp 2) ba _ ka (size_cellsF _ _) rfl rfl rfl ?_; simp only [Act.put, List.setIfInBounds_toArray, List.set]) | (refine wpList_loadA arrK (.tmp 3) bc _ kc (size_cellsF _ _) rfl rfl rfl ?_; simp only [Act.put, List.setIfInBounds_toArray, List.set]))
    have HC := fun w => Lib.hid (below_is f 2147483648 true w hb (by omega) he)
    refine (HC _).out.mono ?_
    rintro e w3 ⟨rfl, x3⟩
    have X3 := Ext.trans X2 x3
    have z3 := x3.size
    replace ka := ka.ext x3
    replace kc := kc.ext x3
    clear HC
    clear he
    rcases forallB_or 256 (fun i => g i < 16760834) with ⟨he, hal2⟩ | he
    · go_wp2_with (first | (refine wpList_loadA arrK (.tmp 2) ba _ ka (size_cellsF _ _) rfl rfl rfl ?_; simp only [Act.put, List.setIfInBounds_toArray, List.set]) | (refine wpList_loadA arrK (.tmp 3) bc _ kc (size_cellsF _ _) rfl rfl rfl ?_; simp only [Act.put, List.setIfInBounds_toArray, List.set]))
      have HC := fun w => Lib.hid (below_is g 16760834 true w hgb (by omega) he)
      refine (HC _).out.mono ?_
      rintro e w4 ⟨rfl, x4⟩
      have X4 := Ext.trans X3 x4
      have z4 := x4.size
      replace ka := ka.ext x4
      replace kc := kc.ext x4
      clear HC
      clear he
      go_wp2_with fail
      refine wp_region_two 6 _ _ _ _ 27 27 256 256 5 6 (.tmp 18) (.tmp 21) _ _ mixed (by kernel_rfl) rfl arrK arrK zeroK zeroK (size_cellsF _ _) (size_cellsF _ _) ⟨rfl, rfl, rfl⟩ ⟨rfl, rfl, rfl⟩ ⟨rfl, rfl, rfl⟩ ⟨rfl, rfl, rfl⟩ (by decide) ?_
      simp only [List.take_succ_cons, List.take_zero]
      refine wpDet_loadA arrK (.tmp 2) ba _ ka (size_cellsF _ _) rfl rfl rfl ?_
      simp only [Act.put, List.setIfInBounds_toArray, List.set]
      refine wpDet_loadA arrK (.tmp 3) bc _ kc (size_cellsF _ _) rfl rfl rfl ?_
      simp only [Act.put, List.setIfInBounds_toArray, List.set]
      refine wpDet_call (.agg (cellsF 256 (ints .u32 (fun i => f i + g i)))) _ _ Try.func26 (by kernel_rfl) (by kernel_rfl) rfl rfl (fun w _ => dAdd_in f g w hb hgb hall hal2) ?_
      simp only [Act.put, List.setIfInBounds_toArray, List.set]
      refine wpDet_loadA arrK (.tmp 2) ba _ ka (size_cellsF _ _) rfl rfl rfl ?_
      simp only [Act.put, List.setIfInBounds_toArray, List.set]
      refine wpDet_loadA arrK (.tmp 3) bc _ kc (size_cellsF _ _) rfl rfl rfl ?_
      simp only [Act.put, List.setIfInBounds_toArray, List.set]
      refine wpDet_call (.agg (cellsF 256 (ints .u32 (fun i => f i + 16760834 - g i)))) _ _ Try.func27 (by kernel_rfl) (by kernel_rfl) rfl rfl (fun w _ => dSub_in f g w hb hgb hall hal2) ?_
      simp only [Act.put, List.setIfInBounds_toArray, List.set]
      refine ⟨_, _, size_cellsF _ _, size_cellsF _ _, one_cellsF _ _ _, one_cellsF _ _ _, fun _ _ => ⟨rfl, rfl, rfl, rfl⟩, ?_⟩
      intro bx bv w5 hx hv hne5 x5 kx kv
      simp only [List.setIfInBounds_toArray, List.set]
      have X5 := Ext.trans X4 x5
      have z5 := x5.size
      replace ka := ka.ext x5
      replace kc := kc.ext x5
      have lx := kx.lt
      have lv := kv.lt
      have HX := Lib.hid X5
      clear X5
      have hix : ∀ wz, (Instr.index 27 (.agg (cellsF 256 (ints .u32 fun i => IntKind.u32.wrap (oneF i + oneF i)))) (.int .i64 0)).run Try.prog wz = .ok (.int .u32 2) wz := fun wz => run_index intK _ 0 (by omega)
      go_wp2_with fail
      go_loopw [22] (fun i wr => ∃ j : Nat, j ≤ 256 ∧ i = .int .i64 j ∧ Hid (Ext w5 wr)) (fun i _ => 256 - (intOf i).toNat)
      case atStart => exact ⟨0, by omega, rfl, Lib.hid (Ext.refl _)⟩
      case round =>
        obtain ⟨j, hj, rfl, hx⟩ := hrel
        by_cases hjl : j < 256
        · obtain ⟨q1, q2⟩ := hb j hjl
          obtain ⟨q3, q4⟩ := hgb j hjl
          have q5 := hall j hjl
          have q6 := hal2 j hjl
          have e1 : IntKind.u32.wrap (f j + g j) = f j + g j := by rw [IntKind.wrap_u32]; omega
          have e2 : (f j + g j) % 4294967296 = f j + g j := by omega
          have e3 : (f j + 16760834 - g j).tmod 8380417 = (f j - g j) % 8380417 := by rw [Int.tmod_eq_emod_of_nonneg (by omega)]; omega
          have e4 : (f j + 16760834 - g j) % 8380417 = (f j - g j) % 8380417 := by omega
          have e5 : IntKind.i64.wrap (f j - g j) = f j - g j := IntWalk.i64_in _ ⟨by omega, by omega⟩
          have e6 : IntKind.i64.wrap (f j) = f j := IntWalk.i64_in _ ⟨by omega, by omega⟩
          have e7 : IntKind.i64.wrap (g j) = g j := IntWalk.i64_in _ ⟨by omega, by omega⟩
          have e8 : IntKind.i64.wrap (f j + 16760834 - g j) = f j + 16760834 - g j := IntWalk.i64_in _ ⟨by omega, by omega⟩
          have ca : wr.cell? ⟨ba, j, none⟩ = some (.int .u32 (f j)) := (ka.ext hx.out).cell hjl
          have cb : wr.cell? ⟨bc, j, none⟩ = some (.int .u32 (g j)) := (kc.ext hx.out).cell hjl
          have cx : wr.cell? ⟨bx, j, none⟩ = some (.int .u32 (f j + g j)) := (kx.ext hx.out).cell hjl
          have cv : wr.cell? ⟨bv, j, none⟩ = some (.int .u32 (f j + 16760834 - g j)) := (kv.ext hx.out).cell hjl
          clear hix hb hgb hall hal2
          go_wp2_with fail
          refine wp_region_still_lit mixed (by kernel_rfl) ?_
          repeat still_step
          still_call (flip_same (mod_any (f j - g j) _ (by omega)))
          repeat still_step
          refine wpStill_nil ?_
          go_wp2_with fail
          go_roundw
          case rel => exact ⟨j + 1, by omega, by go_num, Lib.hid (hx.out.drew)⟩
          case measure => simp [intOf]; omega
        · have hj' : j = 256 := by omega
          subst hj'
          have HX := Lib.hid (HX.out.trans hx.out)
          clear hx hb hgb hall hal2
          go_wp2_with (first | (go_at_call 18; refine (unit_any _).mono ?_; rintro e w' ⟨rfl, x⟩; have HX := Lib.hid (HX.out.trans x); clear x) | (go_at_call 26; refine (dAdd_any oneF oneF _).mono ?_; rintro e w' ⟨rfl, x⟩; have HX := Lib.hid (HX.out.trans x); clear x))
          go_ret
          exact ⟨rfl, HX.out⟩
    · go_wp2_with (first | (refine wpList_loadA arrK (.tmp 2) ba _ ka (size_cellsF _ _) rfl rfl rfl ?_; simp only [Act.put, List.setIfInBounds_toArray, List.set]) | (refine wpList_loadA arrK (.tmp 3) bc _ kc (size_cellsF _ _) rfl rfl rfl ?_; simp only [Act.put, List.setIfInBounds_toArray, List.set]))
      have HC := fun w => Lib.hid (below_is g 16760834 false w hgb (by omega) he)
      refine (HC _).out.mono ?_
      rintro e w4 ⟨rfl, x4⟩
      have X4 := Ext.trans X3 x4
      have z4 := x4.size
      replace ka := ka.ext x4
      replace kc := kc.ext x4
      clear HC
      clear he hb hgb hall
      go_wp2_with fail
      go_ret
      exact ⟨rfl, X4⟩
  · go_wp2_with (first | (refine wpList_loadA arrK (.tmp 2) ba _ ka (size_cellsF _ _) rfl rfl rfl ?_; simp only [Act.put, List.setIfInBounds_toArray, List.set]) | (refine wpList_loadA arrK (.tmp 3) bc _ kc (size_cellsF _ _) rfl rfl rfl ?_; simp only [Act.put, List.setIfInBounds_toArray, List.set]))
    have HC := fun w => Lib.hid (below_is f 2147483648 false w hb (by omega) he)
    refine (HC _).out.mono ?_
    rintro e w3 ⟨rfl, x3⟩
    have X3 := Ext.trans X2 x3
    have z3 := x3.size
    replace ka := ka.ext x3
    replace kc := kc.ext x3
    clear HC
    clear he hb hgb
    go_wp2_with fail
    go_ret
    exact ⟨rfl, X3⟩
end Go.Proofs.Ytgkombmhadgioaa.fnDAddIs
