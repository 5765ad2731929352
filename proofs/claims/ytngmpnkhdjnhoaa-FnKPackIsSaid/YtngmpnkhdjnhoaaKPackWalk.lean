/- laws.FnKPackIs returns true at every polynomial. -/
import Derived.Test.YtngmpnkhdjnhoaaKPackB
import Derived.Test.YtngmpnkhdjnhoaaCanon
import Derived.Test.YtngmpnkhdjnhoaaOnly2
import Derived.Lib.Hide
namespace Go.Proofs.Ytngmpnkhdjnhoaa.fnKPackIs
open Go Go.Proofs Go.RowKit Go.Kd
set_option linter.unusedSimpArgs false
set_option linter.unusedVariables false
set_option maxRecDepth 100000 in
set_option maxHeartbeats 1000000 in
theorem walk (f : Nat → Int) (hf : ∀ i, i < 256 → (Lit.int .i16 (f i)).wf = true) (w : World) :
    Calls Try.prog 3 #[.agg (cellsF 256 (ints .i16 f))] w fun e w' => e = .returned (.bool true) ∧ Ext w w' := by
  have hb : ∀ i, i < 256 → -32768 ≤ f i ∧ f i ≤ 32767 := fun i hi => bounds_i16 (hf i hi)
  clear hf
  go_enter Try.func3, Try.ntmps3
  refine wp_region_then ?_
  refine wpList_boxA 23 (.tmp 0) _ rfl rfl rfl ?_
  simp only [Act.put, List.setIfInBounds_toArray, List.set]
  intro w1 bp hp x1 kp
  have X1 := Ext.trans (Ext.refl w) x1
  have z1 := x1.size
  have lp := kp.lt
  refine wpList_val (v := .bool false) rfl rfl ?_
  simp only [Act.put, List.setIfInBounds_toArray, List.set]
  refine wp_next (wp_seq ?_)
  refine wp_region_canon Ext [1, 5, 6, 9, 10] [0, 1, 2, 3, 4, 8, 5, 6, 7, 9, 10, 11, 12, 13, 14] mixed Ext.refl Ext.trans (by decide) (by kernel_rfl) ?_
  intro w2 x2 _
  simp only [pickO, List.getElem?_cons_succ, List.getElem?_cons_zero]
  have X2 := Ext.trans X1 x2
  have z2 := x2.size
  replace kp := kp.ext x2
  refine wpC_loadA arrK (.tmp 1) bp _ (fun _ h => kp.ext h) (size_cellsF _ _) rfl rfl rfl rfl ?_
  simp only [Act.put, List.setIfInBounds_toArray, List.set]
  rcases forallB_or 256 (fun i => 0 ≤ f i ∧ f i < 3329) with ⟨he, hall⟩ | he
  · have hbq : ∀ i, i < 256 → 0 ≤ f i ∧ f i ≤ 4095 := fun i hi => by have := hall i hi; omega
    refine wpC_callW (V := fun v w => v = .bool true ∧ Ext w2 w) _ _ Try.func10 (by kernel_rfl) (by kernel_rfl) rfl rfl rfl rfl ((normal_is f true _ hb he).mono fun _ _ ⟨h1, h2⟩ => ⟨_, h1, rfl, h2⟩) ?_
    rintro _ w3 ⟨rfl, x3⟩
    refine ⟨x3, ?_⟩
    simp only [Act.put, List.setIfInBounds_toArray, List.set]
    have X3 := Ext.trans X2 x3
    have z3 := x3.size
    replace kp := kp.ext x3
    refine wpC_val (.bool false) rfl rfl (fun _ _ => rfl) ?_
    simp only [Act.put, List.setIfInBounds_toArray, List.set]
    refine wpC_move (.tmp 5) rfl rfl rfl ?_
    simp only [Act.put, List.setIfInBounds_toArray, List.set]
    refine wpC_loadA arrK (.tmp 1) bp _ (fun _ h => kp.ext h) (size_cellsF _ _) rfl rfl rfl rfl ?_
    simp only [Act.put, List.setIfInBounds_toArray, List.set]
    refine wpC_loadA arrK (.tmp 1) bp _ (fun _ h => kp.ext h) (size_cellsF _ _) rfl rfl rfl rfl ?_
    simp only [Act.put, List.setIfInBounds_toArray, List.set]
    refine wpC_callW (V := fun v w => v = .agg (cellsF 256 (ints .i16 f)) ∧ Ext w3 w) _ _ Try.func12 (by kernel_rfl) (by kernel_rfl) rfl rfl rfl rfl ((kTangle_any f _).mono fun _ _ ⟨h1, h2⟩ => ⟨_, h1, rfl, h2⟩) ?_
    rintro _ w4 ⟨rfl, x4⟩
    refine ⟨x4, ?_⟩
    simp only [Act.put, List.setIfInBounds_toArray, List.set]
    have X4 := Ext.trans X3 x4
    have z4 := x4.size
    replace kp := kp.ext x4
    refine wpC_callW (V := fun v w => ∃ b, v = .slice (some ⟨b, 0, none⟩) 384 384 ∧ SlB w b 384 (enc f 12) ∧ Ext w4 w) _ _ Try.func11 (by kernel_rfl) (by kernel_rfl) rfl rfl rfl rfl (kPack_any f _ hbq) ?_
    rintro _ w5 ⟨bc, rfl, kc, x5⟩
    refine ⟨x5, ?_⟩
    simp only [Act.put, List.setIfInBounds_toArray, List.set]
    have X5 := Ext.trans X4 x5
    have z5 := x5.size
    replace kp := kp.ext x5
    refine wpC_val (.string (strOf 384 (enc f 12))) rfl rfl (fun _ h => run_str Try.underlying25 Try.underlying5 Try.underlying9 (.tmp 9) bc 384 384 _ (kc.ext h) rfl rfl) ?_
    simp only [Act.put, List.setIfInBounds_toArray, List.set]
    refine wpC_callW (V := fun v w => v = .agg (cellsF 256 (ints .i64 f)) ∧ Ext w5 w) _ _ Try.func14 (by kernel_rfl) (by kernel_rfl) rfl rfl rfl rfl ((lints_any f _ hb).mono fun _ _ ⟨h1, h2⟩ => ⟨_, h1, rfl, h2⟩) ?_
    rintro _ w6 ⟨rfl, x6⟩
    refine ⟨x6, ?_⟩
    simp only [Act.put, List.setIfInBounds_toArray, List.set]
    have X6 := Ext.trans X5 x6
    have z6 := x6.size
    replace kp := kp.ext x6
    replace kc := kc.ext x6
    refine wpC_callW (V := fun v w => ∃ b, v = .slice (some ⟨b, 0, none⟩) 384 384 ∧ SlB w b 384 (enc f 12) ∧ Ext w6 w) _ _ Try.func13 (by kernel_rfl) (by kernel_rfl) rfl rfl rfl rfl (enc12_any f _ (fun i hi => by have := hbq i hi; omega)) ?_
    rintro _ w7 ⟨bd, rfl, kd, x7⟩
    refine ⟨x7, ?_⟩
    simp only [Act.put, List.setIfInBounds_toArray, List.set]
    have X7 := Ext.trans X6 x7
    have z7 := x7.size
    replace kp := kp.ext x7
    replace kc := kc.ext x7
    refine wpC_val (.string (strOf 384 (enc f 12))) rfl rfl (fun _ h => run_str Try.underlying25 Try.underlying5 Try.underlying9 (.tmp 13) bd 384 384 _ (kd.ext h) rfl rfl) ?_
    simp only [Act.put, List.setIfInBounds_toArray, List.set]
    refine wpC_val (.bool true) rfl rfl (fun _ _ => run_eqlS _ _ (.tmp 10) (.tmp 14) _ rfl rfl rfl) ?_
    simp only [Act.put, List.setIfInBounds_toArray, List.set]
    refine wpC_pick (.tmp 6) (.const (.bool true)) (.tmp 15) false rfl rfl rfl rfl ?_
    simp only [Act.put, List.setIfInBounds_toArray, List.set]
    refine wpC_assign (.tmp 16) rfl rfl rfl ?_
    simp only [Act.put, List.setIfInBounds_toArray, List.set]
    refine wpC_nil ?_
    refine wp_ret ?_
    go_ret
    exact ⟨rfl, X7⟩
  · refine wpC_callW (V := fun v w => v = .bool false ∧ Ext w2 w) _ _ Try.func10 (by kernel_rfl) (by kernel_rfl) rfl rfl rfl rfl ((normal_is f false _ hb he).mono fun _ _ ⟨h1, h2⟩ => ⟨_, h1, rfl, h2⟩) ?_
    rintro _ w3 ⟨rfl, x3⟩
    refine ⟨x3, ?_⟩
    simp only [Act.put, List.setIfInBounds_toArray, List.set]
    have X3 := Ext.trans X2 x3
    have z3 := x3.size
    replace kp := kp.ext x3
    refine wpC_val (.bool true) rfl rfl (fun _ _ => rfl) ?_
    simp only [Act.put, List.setIfInBounds_toArray, List.set]
    refine wpC_move (.tmp 5) rfl rfl rfl ?_
    simp only [Act.put, List.setIfInBounds_toArray, List.set]
    refine wpC_skip rfl rfl ?_
    simp only [Act.put, List.setIfInBounds_toArray, List.set]
    refine wpC_skip rfl rfl ?_
    simp only [Act.put, List.setIfInBounds_toArray, List.set]
    refine wpC_skipW rfl rfl rfl (Ext.refl _) ?_
    simp only [Act.put, List.setIfInBounds_toArray, List.set]
    refine wpC_skipW rfl rfl rfl (Ext.refl _) ?_
    simp only [Act.put, List.setIfInBounds_toArray, List.set]
    refine wpC_skip rfl rfl ?_
    simp only [Act.put, List.setIfInBounds_toArray, List.set]
    refine wpC_skipW rfl rfl rfl (Ext.refl _) ?_
    simp only [Act.put, List.setIfInBounds_toArray, List.set]
    refine wpC_skipW rfl rfl rfl (Ext.refl _) ?_
    simp only [Act.put, List.setIfInBounds_toArray, List.set]
    refine wpC_skip rfl rfl ?_
    simp only [Act.put, List.setIfInBounds_toArray, List.set]
    refine wpC_skip rfl rfl ?_
    simp only [Act.put, List.setIfInBounds_toArray, List.set]
    refine wpC_pick (.tmp 6) (.const (.bool true)) (.tmp 15) true rfl rfl rfl rfl ?_
    simp only [Act.put, List.setIfInBounds_toArray, List.set]
    refine wpC_assign (.tmp 16) rfl rfl rfl ?_
    simp only [Act.put, List.setIfInBounds_toArray, List.set]
    refine wpC_nil ?_
    refine wp_ret ?_
    go_ret
    exact ⟨rfl, X3⟩
end Go.Proofs.Ytngmpnkhdjnhoaa.fnKPackIs
