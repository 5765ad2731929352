/- laws.FnDTimesIs returns true at every polynomial. -/
import Derived.Test.YtgkombmhadgioaaDMap
import Derived.Test.YtgkombmhadgioaaDSpec
import Derived.Test.YtgkombmhadgioaaDOne
import Derived.Lib.Hide
namespace Go.Proofs.Ytgkombmhadgioaa.fnDTimesIs
open Go Go.Proofs Go.RowKit Go.Kd
set_option maxRecDepth 100000 in
set_option maxHeartbeats 1000000 in
theorem walk (f : Nat → Int) (hf : ∀ i, i < 256 → (Lit.int .u32 (f i)).wf = true) (w : World) :
    Calls Try.prog 4 #[.agg (cellsF 256 (ints .u32 f))] w fun e w' => e = .returned (.bool true) ∧ Ext w w' := by
  have hb : ∀ i, i < 256 → 0 ≤ f i ∧ f i ≤ 4294967295 := fun i hi => bounds_u32 (hf i hi)
  clear hf
  go_enter Try.func4, Try.ntmps4
  refine wp_region_then ?_
  refine wpList_boxA 27 (.tmp 0) _ rfl rfl rfl ?_
  simp only [Act.put, List.setIfInBounds_toArray, List.set]
  intro w1 bp hp x1 kp
  have X1 := Ext.trans (Ext.refl w) x1
  have z1 := x1.size
  have lp := kp.lt
  refine wpList_val (v := .bool false) rfl rfl ?_
  simp only [Act.put, List.setIfInBounds_toArray, List.set]
  refine wp_next ?_
  rcases forallB_or 256 (fun i => f i < 524288) with ⟨he, hall⟩ | he
  · have HC := fun w => Lib.hid (below_is f 524288 true w hb (by omega) he)
    clear he
    have hix1 : ∀ wz, (Instr.index 27 (.agg (cellsF 256 (ints .u32 fun i => IntKind.u32.wrap (oneF i * 8192)))) (.int .i64 0)).run Try.prog wz = .ok (.int .u32 8192) wz := fun wz => run_index intK _ 0 (by omega)
    have hix : ∀ (j : Nat), j < 256 → ∀ wz, (Instr.index 27 (.agg (cellsF 256 (ints .u32 (fun i => IntKind.u32.wrap (f i * 8192))))) (.int .i64 (j : Int))).run Try.prog wz = .ok (.int .u32 (f j * 8192)) wz := fun j hj wz => (run_index intK _ j hj).trans (by have h1 := hall j hj; have h2 := hb j hj; rw [show ints .u32 (fun i => IntKind.u32.wrap (f i * 8192)) j = .int .u32 (f j * 8192) by show Value.int _ (IntKind.u32.wrap _) = _; rw [IntKind.wrap_u32, Int.emod_eq_of_lt (by omega) (by omega)]])
    go_wp2_with (first | (refine wpList_loadA arrK (.tmp 1) bp _ kp (size_cellsF _ _) rfl rfl rfl ?_; simp only [Act.put, List.setIfInBounds_toArray, List.set]))
    refine (HC _).out.mono ?_
    rintro e w2 ⟨rfl, x2⟩
    have X2 := Ext.trans X1 x2
    have z2 := x2.size
    replace kp := kp.ext x2
    clear HC
    go_wp2_with (first | (refine wpList_loadA arrK (.tmp 1) bp _ kp (size_cellsF _ _) rfl rfl rfl ?_; simp only [Act.put, List.setIfInBounds_toArray, List.set]))
    refine (dTimes_any f _).mono ?_
    rintro e w3 ⟨rfl, x3⟩
    have X3 := Ext.trans X2 x3
    have z3 := x3.size
    replace kp := kp.ext x3
    go_wp2_with (first | (refine wpList_allocA 27 _ _ zeroK rfl rfl ?_; simp only [Act.put, List.setIfInBounds_toArray, List.set]; intro w4 bg hg x4 kg; have X4 := Ext.trans X3 x4; have z4 := x4.size; replace kp := kp.ext x4; have lg := kg.lt) | (refine wpList_storeA arrK (.tmp 3) (.tmp 10) bg _ _ kg (size_cellsF _ _) (size_cellsF _ _) (one_cellsF _ _ _) rfl rfl rfl rfl ?_; simp only [Act.put]; clear kg; intro w5 o5 kg; have X5 := o5.ext X4 (by omega); have z5 := o5.size; replace kp := o5.blk (by omega) kp) | (refine wpList_loadA arrK (.tmp 3) bg _ kg (size_cellsF _ _) rfl rfl rfl ?_; simp only [Act.put, List.setIfInBounds_toArray, List.set]))
    have HX := Lib.hid X5
    clear X5
    go_loop [12] (fun i => ∃ j : Nat, j ≤ 256 ∧ i = .int .i64 j) (fun i => 256 - (intOf i).toNat)
    case atStart => exact ⟨0, by omega, rfl⟩
    case round =>
      obtain ⟨j, hj, rfl⟩ := hrel
      by_cases hjl : j < 256
      · have h1 := hix j hjl
        obtain ⟨q1, q2⟩ := hb j hjl
        have q3 := hall j hjl
        have ca : w5.cell? ⟨bp, j, none⟩ = some (.int .u32 (f j)) := kp.cell hjl
        clear hix hix1 hb hall
        go_wp2_with fail
        go_round
        case rel => exact ⟨j + 1, by omega, by go_num⟩
        case measure => simp [intOf]; omega
      · have hj' : j = 256 := by omega
        subst hj'
        clear hix hb hall
        go_wp2_with (first | (go_at_call 18; refine (unit_any _).mono ?_; rintro e w' ⟨rfl, x⟩; have HX := Lib.hid (HX.out.trans x); clear x) | (go_at_call 17; refine (dTimes_any oneF _).mono ?_; rintro e w' ⟨rfl, x⟩; have HX := Lib.hid (HX.out.trans x); clear x))
        go_ret
        exact ⟨rfl, HX.out⟩
  · have HC := fun w => Lib.hid (below_is f 524288 false w hb (by omega) he)
    clear he hb
    go_wp2_with (first | (refine wpList_loadA arrK (.tmp 1) bp _ kp (size_cellsF _ _) rfl rfl rfl ?_; simp only [Act.put, List.setIfInBounds_toArray, List.set]))
    refine (HC _).out.mono ?_
    rintro e w2 ⟨rfl, x2⟩
    have X2 := Ext.trans X1 x2
    have z2 := x2.size
    replace kp := kp.ext x2
    go_wp2_with fail
    go_ret
    exact ⟨rfl, X2⟩
end Go.Proofs.Ytgkombmhadgioaa.fnDTimesIs
