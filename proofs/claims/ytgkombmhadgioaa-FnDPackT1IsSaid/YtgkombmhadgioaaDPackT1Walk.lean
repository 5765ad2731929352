/- laws.FnDPackT1Is returns true at every polynomial. -/
import Derived.Test.YtgkombmhadgioaaDPackT1b
import Derived.Test.YtgkombmhadgioaaDNums
import Derived.Test.YtgkombmhadgioaaDSpec
import Derived.Lib.Hide
namespace Go.Proofs.Ytgkombmhadgioaa.fnDPackT1Is
open Go Go.Proofs Go.RowKit Go.Kd
set_option linter.unusedSimpArgs false
set_option linter.unusedVariables false
set_option maxRecDepth 100000 in
set_option maxHeartbeats 1000000 in
theorem walk (f : Nat → Int) (hf : ∀ i, i < 256 → (Lit.int .u32 (f i)).wf = true) (w : World) :
    Calls Try.prog 12 #[.agg (cellsF 256 (ints .u32 f))] w fun e w' => e = .returned (.bool true) ∧ Ext w w' := by
  have hb : ∀ i, i < 256 → 0 ≤ f i ∧ f i ≤ 4294967295 := fun i hi => bounds_u32 (hf i hi)
  clear hf
  go_enter Try.func12, Try.ntmps12
  refine wp_region_then ?_
  refine wpList_boxA 27 (.tmp 0) _ rfl rfl rfl ?_
  simp only [Act.put, List.setIfInBounds_toArray, List.set]
  intro w1 bp hp x1 kp
  have X1 := Ext.trans (Ext.refl w) x1
  have z1 := x1.size
  have lp := kp.lt
  refine wpList_val (v := .bool false) rfl rfl ?_
  simp only [Act.put, List.setIfInBounds_toArray, List.set]
  refine wp_next ?_
  rcases forallB_or 256 (fun i => f i < 1024) with ⟨he, hall⟩ | he
  · have HC := fun w => Lib.hid (below_is f 1024 true w hb (by omega) he)
    clear he
    go_wp2_with (first | (refine wpList_loadA arrK (.tmp 1) bp _ kp (size_cellsF _ _) rfl rfl rfl ?_; simp only [Act.put, List.setIfInBounds_toArray, List.set]))
    refine (HC _).out.mono ?_
    rintro e w2 ⟨rfl, x2⟩
    have X2 := Ext.trans X1 x2
    have z2 := x2.size
    replace kp := kp.ext x2
    clear HC
    have hbq : ∀ i, i < 256 → 0 ≤ f i ∧ f i ≤ 1023 := fun i hi => ⟨(hb i hi).1, by have := hall i hi; omega⟩
    have HP := fun w => Lib.hid (dPackT1_any f w hbq)
    have HU := fun b c w h => Lib.hid (dUnpackT1_any b c (enc f 10) f w h (fun i _ => enc_bd f 10 i) (u1_0 f hbq) (u1_1 f hbq) (u1_2 f hbq) (u1_3 f hbq))
    have HB := Lib.hid hb
    clear hb hbq hall
    go_wp2_with (first | (refine wpList_loadA arrK (.tmp 1) bp _ kp (size_cellsF _ _) rfl rfl rfl ?_; simp only [Act.put, List.setIfInBounds_toArray, List.set]) | (go_at_call 37; refine (HP _).out.mono ?_; rintro e w3 ⟨v, rfl, bc, rfl, kc, x3⟩; have X3 := Ext.trans X2 x3; replace kp := kp.ext x3) | (go_at_call 38; refine (HU bc _ _ kc).out.mono ?_; rintro e w4 ⟨rfl, x4⟩; have X4 := Ext.trans X3 x4; replace kp := kp.ext x4; replace kc := kc.ext x4) | (have lp4 := kp.lt; have lc4 := kc.1; refine wpList_allocA 27 _ _ zeroK rfl rfl ?_; simp only [Act.put, List.setIfInBounds_toArray, List.set]; intro w5 bg hg x5 kg; have X5 := Ext.trans X4 x5; replace kp := kp.ext x5; replace kc := kc.ext x5; have zz := X4.size) | (refine wpList_storeA arrK (.tmp 4) (.tmp 14) bg _ _ kg (size_cellsF _ _) (size_cellsF _ _) (one_cellsF _ _ _) rfl rfl rfl rfl ?_; simp only [Act.put]; clear kg; intro w6 o6 kg; have X6 := o6.ext X5 (by omega); replace kp := o6.blk (by omega) kp; replace kc := kc.rowK.only (by omega) o6))
    have kc : SlB w6 bc 320 (enc f 10) := kc
    refine wp_region_canon Ext [10, 11] [0, 1, 2, 3, 4, 5, 6, 7, 8, 9, 10, 11, 12, 13, 14, 15] mixed Ext.refl Ext.trans (by decide) (by kernel_rfl) ?_
    intro w7 x7 _
    simp only [pickO, List.getElem?_cons_succ, List.getElem?_cons_zero]
    have X7 := Ext.trans X6 x7
    have z7 := x7.size
    replace kp := kp.ext x7
    replace kc := kc.ext x7
    replace kg := kg.ext x7
    refine wpC_move (.tmp 5) rfl rfl rfl ?_
    simp only [Act.put, List.setIfInBounds_toArray, List.set]
    refine wpC_move (.tmp 16) rfl rfl rfl ?_
    simp only [Act.put, List.setIfInBounds_toArray, List.set]
    refine wpC_loadA arrK (.tmp 4) bg _ (fun _ h => kg.ext h) (size_cellsF _ _) rfl rfl rfl rfl ?_
    simp only [Act.put, List.setIfInBounds_toArray, List.set]
    refine wpC_loadA arrK (.tmp 1) bp _ (fun _ h => kp.ext h) (size_cellsF _ _) rfl rfl rfl rfl ?_
    simp only [Act.put, List.setIfInBounds_toArray, List.set]
    refine wpC_val (.bool true) rfl rfl (fun _ _ => (run_eql intK (.tmp 18) (.tmp 19) _ (f) (f) rfl rfl rfl).trans (by rw [eq_dec fun _ _ => rfl])) ?_
    simp only [Act.put, List.setIfInBounds_toArray, List.set]
    refine wpC_pick (.tmp 17) (.tmp 20) (.const (.bool false)) true rfl rfl rfl rfl ?_
    simp only [Act.put, List.setIfInBounds_toArray, List.set]
    refine wpC_move (.tmp 21) rfl rfl rfl ?_
    simp only [Act.put, List.setIfInBounds_toArray, List.set]
    refine wpC_move (.tmp 3) rfl rfl rfl ?_
    simp only [Act.put, List.setIfInBounds_toArray, List.set]
    refine wpC_val (.string (strOf 320 (enc f 10))) rfl rfl (fun _ h => run_str Try.underlying46 Try.underlying5 Try.underlying9 (.tmp 23) bc 320 320 _ (kc.ext h) rfl rfl) ?_
    simp only [Act.put, List.setIfInBounds_toArray, List.set]
    refine wpC_loadA arrK (.tmp 1) bp _ (fun _ h => kp.ext h) (size_cellsF _ _) rfl rfl rfl rfl ?_
    simp only [Act.put, List.setIfInBounds_toArray, List.set]
    refine wpC_callW (V := fun v w => v = .agg (cellsF 256 (ints .i64 f)) ∧ Ext w7 w) _ _ Try.func36 (by kernel_rfl) (by kernel_rfl) rfl rfl rfl rfl ((nums_any f _ HB.out).mono fun _ _ ⟨h1, h2⟩ => ⟨_, h1, rfl, h2⟩) ?_
    rintro _ w8 ⟨rfl, x8⟩
    refine ⟨x8, ?_⟩
    simp only [Act.put, List.setIfInBounds_toArray, List.set]
    have X8 := Ext.trans X7 x8
    have z8 := x8.size
    replace kp := kp.ext x8
    replace kc := kc.ext x8
    replace kg := kg.ext x8
    refine wpC_callW (V := fun v w => ∃ b, v = .slice (some ⟨b, 0, none⟩) 320 320 ∧ SlB w b 320 (enc f 10) ∧ Ext w8 w) _ _ Try.func35 (by kernel_rfl) (by kernel_rfl) rfl rfl rfl rfl (enc10_any f _ HB.out) ?_
    rintro _ w9 ⟨bd, rfl, kd, x9⟩
    refine ⟨x9, ?_⟩
    simp only [Act.put, List.setIfInBounds_toArray, List.set]
    have X9 := Ext.trans X8 x9
    have z9 := x9.size
    replace kp := kp.ext x9
    replace kc := kc.ext x9
    replace kg := kg.ext x9
    refine wpC_val (.string (strOf 320 (enc f 10))) rfl rfl (fun _ h => run_str Try.underlying46 Try.underlying5 Try.underlying9 (.tmp 27) bd 320 320 _ (kd.ext h) rfl rfl) ?_
    simp only [Act.put, List.setIfInBounds_toArray, List.set]
    refine wpC_val (.bool true) rfl rfl (fun _ _ => run_eqlS _ _ (.tmp 24) (.tmp 28) _ rfl rfl rfl) ?_
    simp only [Act.put, List.setIfInBounds_toArray, List.set]
    refine wpC_pick (.tmp 22) (.tmp 29) (.const (.bool false)) true rfl rfl rfl rfl ?_
    simp only [Act.put, List.setIfInBounds_toArray, List.set]
    refine wpC_assign (.tmp 30) rfl rfl rfl ?_
    simp only [Act.put, List.setIfInBounds_toArray, List.set]
    refine wpC_nil ?_
    go_wp2_with fail
    go_ret
    exact ⟨rfl, X9⟩
  · have HC := fun w => Lib.hid (below_is f 1024 false w hb (by omega) he)
    clear he
    go_wp2_with (first | (refine wpList_loadA arrK (.tmp 1) bp _ kp (size_cellsF _ _) rfl rfl rfl ?_; simp only [Act.put, List.setIfInBounds_toArray, List.set]))
    refine (HC _).out.mono ?_
    rintro e w2 ⟨rfl, x2⟩
    have X2 := Ext.trans X1 x2
    have z2 := x2.size
    replace kp := kp.ext x2
    clear HC
    clear hb
    go_wp2_with fail
    go_ret
    exact ⟨rfl, X2⟩
end Go.Proofs.Ytgkombmhadgioaa.fnDPackT1Is
