/- laws.FnDNTTIs returns true at every polynomial, where the tables are those of the text. -/
import Derived.Test.YtnehgjpphojhlaaDoorDNtt
import Derived.Test.YtnehgjpphojhlaaDoorDSNtt
import Derived.Test.YtnehgjpphojhlaaDoorCanon
import Derived.Test.YtnehgjpphojhlaaDoorDSpec
import Derived.Test.YtnehgjpphojhlaaDoorOnly2
import Derived.Lib.Hide
namespace Go.Proofs.YtnehgjpphojhlaaDoor.fnDNTTIs
open Go Go.Proofs Go.RowKit Go.Kd
set_option linter.unusedSimpArgs false
set_option linter.unusedVariables false


set_option maxRecDepth 100000 in
set_option maxHeartbeats 2000000 in
theorem walk (f : Nat → Int) (hf : ∀ i, i < 256 → (Lit.int .u32 (f i)).wf = true) (w : World) (hz : ZetasIn w) :
    Calls Tryd.prog 4 #[.agg (cellsF 256 (ints .u32 f))] w fun e w' => e = .returned (.bool true) ∧ Ext w w' := by
  have hb : ∀ i, i < 256 → 0 ≤ f i ∧ f i ≤ 4294967295 := fun i hi => bounds_u32 (hf i hi)
  clear hf
  go_enter Tryd.func4, Tryd.ntmps4
  refine wp_region_then ?_
  refine wpList_boxA 28 (.tmp 0) _ rfl rfl rfl ?_
  simp only [Act.put, List.setIfInBounds_toArray, List.set]
  intro w1 bp hp x1 kp
  have X1 := Ext.trans (Ext.refl w) x1
  have z1 := x1.size
  have lp := kp.lt
  refine wpList_val (v := .bool false) rfl rfl ?_
  simp only [Act.put, List.setIfInBounds_toArray, List.set]
  refine wp_next ?_
  rcases forallB_or 256 (fun i => f i < 16760834) with ⟨he, hall⟩ | he
  · have hbq : ∀ i, i < 256 → 0 ≤ f i ∧ f i < 16760834 := fun i hi => ⟨(hb i hi).1, hall i hi⟩
    have HC := fun w => Lib.hid (below_is f 16760834 true w hb (by omega) he)
    have HN := fun w1 (h : Ext w w1) => Lib.hid (dNTT_any f w1 (hz.ext h) hbq)
    have HZ := Lib.hid hz
    have HB := Lib.hid hb
    have hF : ∀ i, i < 256 → 0 ≤ FD f 8 i ∧ FD f 8 i < 150847506 := fun i hi => by have h := FD_bd f hbq 8 (by omega) i hi; omega
    have HF := Lib.hid hF
    have hgb : ∀ i, i < 256 → 0 ≤ FD f 8 i ∧ FD f 8 i ≤ 4294967295 := fun i hi => by have h := hF i hi; omega
    have HG := Lib.hid hgb
    clear hz hb hall he hgb hbq hF
    go_wp2_with (first | (refine wpList_loadA arrK (.tmp 1) bp _ kp (size_cellsF _ _) rfl rfl rfl ?_; simp only [Act.put, List.setIfInBounds_toArray, List.set]) | (go_at_call 10; refine (HC _).out.mono ?_; rintro e w2 ⟨rfl, x2⟩; have X2 := Ext.trans X1 x2; replace kp := kp.ext x2; clear HC) | (go_at_call 11; refine (HN _ X2).out.mono ?_; rintro e w3 ⟨rfl, x3⟩; have X3 := Ext.trans X2 x3; replace kp := kp.ext x3; have lp3 := kp.lt; clear HN) | (refine wpList_allocA 28 _ _ zeroK rfl rfl ?_; simp only [Act.put, List.setIfInBounds_toArray, List.set]; intro w4 bg hg x4 kg; have X4 := Ext.trans X3 x4; replace kp := kp.ext x4; have zz1 := X3.size) | (refine wpList_storeA arrK (.tmp 3) (.tmp 8) bg _ _ kg (size_cellsF _ _) (size_cellsF _ _) (one_cellsF _ _ _) rfl rfl rfl rfl ?_; simp only [Act.put]; clear kg; intro w5 o5 kg; have X5 := o5.ext X4 (by omega); replace kp := o5.blk (by omega) kp))
    refine wp_region_canon Ext [1, 4, 5, 7, 10, 11] [0, 1, 2, 3, 6, 4, 5, 7, 8, 9, 12, 10, 11, 13, 14, 15] mixed Ext.refl Ext.trans (by decide) (by kernel_rfl) ?_
    intro w6 x6 _
    simp only [pickO, List.getElem?_cons_succ, List.getElem?_cons_zero]
    have X6 := Ext.trans X5 x6
    have z6 := x6.size
    replace kp := kp.ext x6
    replace kg := kg.ext x6
    refine wpC_loadA arrK (.tmp 3) bg _ (fun _ h => kg.ext h) (size_cellsF _ _) rfl rfl rfl rfl ?_
    simp only [Act.put, List.setIfInBounds_toArray, List.set]
    refine wpC_callW (V := fun v w => v = .bool true ∧ Ext w6 w) _ _ Tryd.func10 (by kernel_rfl) (by kernel_rfl) rfl rfl rfl rfl ((below_is (FD f 8) 150847507 true _ HG.out (by omega) (forallB_true fun i hi => by have h := HF.out i hi; omega)).mono fun _ _ ⟨h1, h2⟩ => ⟨_, h1, rfl, h2⟩) ?_
    rintro _ w7 ⟨rfl, x7⟩
    refine ⟨x7, ?_⟩
    simp only [Act.put, List.setIfInBounds_toArray, List.set]
    have X7 := Ext.trans X6 x7
    have z7 := x7.size
    replace kp := kp.ext x7
    replace kg := kg.ext x7
    refine wpC_move (.tmp 10) rfl rfl rfl ?_
    simp only [Act.put, List.setIfInBounds_toArray, List.set]
    refine wpC_loadA arrK (.tmp 1) bp _ (fun _ h => kp.ext h) (size_cellsF _ _) rfl rfl rfl rfl ?_
    simp only [Act.put, List.setIfInBounds_toArray, List.set]
    refine wpC_loadA arrK (.tmp 3) bg _ (fun _ h => kg.ext h) (size_cellsF _ _) rfl rfl rfl rfl ?_
    simp only [Act.put, List.setIfInBounds_toArray, List.set]
    refine wpC_callW (V := fun v w => v = .agg (cellsF 256 (ints .i64 (fun i => f i % 8380417))) ∧ Ext w7 w) _ _ Tryd.func12 (by kernel_rfl) (by kernel_rfl) rfl rfl rfl rfl ((of_any f _ HB.out).mono fun _ _ ⟨h1, h2⟩ => ⟨_, h1, rfl, h2⟩) ?_
    rintro _ w8 ⟨rfl, x8⟩
    refine ⟨x8, ?_⟩
    simp only [Act.put, List.setIfInBounds_toArray, List.set]
    have X8 := Ext.trans X7 x8
    have z8 := x8.size
    replace kp := kp.ext x8
    replace kg := kg.ext x8
    refine wpC_callW (V := fun v w => v = .agg (cellsF 256 (ints .i64 (SD (fun i => f i % 8380417) 8))) ∧ Ext w8 w) _ _ Tryd.func13 (by kernel_rfl) (by kernel_rfl) rfl rfl rfl rfl ((sNTTD_any (fun i => f i % 8380417) _ (fun i _ => by omega)).mono fun _ _ ⟨h1, h2⟩ => ⟨_, h1, rfl, h2⟩) ?_
    rintro _ w9 ⟨rfl, x9⟩
    refine ⟨x9, ?_⟩
    simp only [Act.put, List.setIfInBounds_toArray, List.set]
    have X9 := Ext.trans X8 x9
    have z9 := x9.size
    replace kp := kp.ext x9
    replace kg := kg.ext x9
    refine wpC_callW (V := fun v w => v = .bool true ∧ Ext w9 w) _ _ Tryd.func14 (by kernel_rfl) (by kernel_rfl) rfl rfl rfl rfl ((is_any (SD (fun i => f i % 8380417) 8) (FD f 8) _ HG.out (SD_is f 8 (by omega))).mono fun _ _ ⟨h1, h2⟩ => ⟨_, h1, rfl, h2⟩) ?_
    rintro _ w10 ⟨rfl, x10⟩
    refine ⟨x10, ?_⟩
    simp only [Act.put, List.setIfInBounds_toArray, List.set]
    have X10 := Ext.trans X9 x10
    have z10 := x10.size
    replace kp := kp.ext x10
    replace kg := kg.ext x10
    refine wpC_pick (.tmp 11) (.tmp 16) (.const (.bool false)) true rfl rfl rfl rfl ?_
    simp only [Act.put, List.setIfInBounds_toArray, List.set]
    refine wpC_move (.tmp 17) rfl rfl rfl ?_
    simp only [Act.put, List.setIfInBounds_toArray, List.set]
    refine wpC_val (.agg (zeros 256 .u32)) rfl rfl (fun _ _ => run_build0 intK _ zeroK rfl) ?_
    simp only [Act.put, List.setIfInBounds_toArray, List.set]
    refine wpC_callW (V := fun v w => v = .agg (cellsF 256 (ints .u32 (oneF))) ∧ Ext w10 w) _ _ Tryd.func15 (by kernel_rfl) (by kernel_rfl) rfl rfl rfl rfl ((unit_any _).mono fun _ _ ⟨h1, h2⟩ => ⟨_, h1, rfl, h2⟩) ?_
    rintro _ w11 ⟨rfl, x11⟩
    refine ⟨x11, ?_⟩
    simp only [Act.put, List.setIfInBounds_toArray, List.set]
    have X11 := Ext.trans X10 x11
    have z11 := x11.size
    replace kp := kp.ext x11
    replace kg := kg.ext x11
    refine wpC_callW (V := fun v w => v = .agg (cellsF 256 (ints .u32 (FD oneF 8))) ∧ Ext w11 w) _ _ Tryd.func11 (by kernel_rfl) (by kernel_rfl) rfl rfl rfl rfl ((dNTT_any oneF _ (HZ.out.ext X11) (fun i hi => by have h := one_bd i hi; omega)).mono fun _ _ ⟨h1, h2⟩ => ⟨_, h1, rfl, h2⟩) ?_
    rintro _ w12 ⟨rfl, x12⟩
    refine ⟨x12, ?_⟩
    simp only [Act.put, List.setIfInBounds_toArray, List.set]
    have X12 := Ext.trans X11 x12
    have z12 := x12.size
    replace kp := kp.ext x12
    replace kg := kg.ext x12
    refine wpC_val (.bool true) rfl rfl (fun _ _ => (run_neq intK (.tmp 20) (.tmp 21) _ (FD oneF 8) (fun _ => 0) rfl rfl rfl).trans (by rw [ne_dec 0 (by omega) (by rw [(FD_one oneF rfl (fun i h => if_neg (by omega)) 8 (by omega)).1]; decide)])) ?_
    simp only [Act.put, List.setIfInBounds_toArray, List.set]
    refine wpC_pick (.tmp 18) (.tmp 22) (.const (.bool false)) true rfl rfl rfl rfl ?_
    simp only [Act.put, List.setIfInBounds_toArray, List.set]
    refine wpC_assign (.tmp 23) rfl rfl rfl ?_
    simp only [Act.put, List.setIfInBounds_toArray, List.set]
    refine wpC_nil ?_
    go_wp2_with fail
    go_ret
    exact ⟨rfl, X12⟩
  · have HC := fun w => Lib.hid (below_is f 16760834 false w hb (by omega) he)
    clear hb he hz
    go_wp2_with (first | (refine wpList_loadA arrK (.tmp 1) bp _ kp (size_cellsF _ _) rfl rfl rfl ?_; simp only [Act.put, List.setIfInBounds_toArray, List.set]) | (go_at_call 10; refine (HC _).out.mono ?_; rintro e w2 ⟨rfl, x2⟩; have X2 := Ext.trans X1 x2; replace kp := kp.ext x2; clear HC))
    go_ret
    exact ⟨rfl, X2⟩
end Go.Proofs.YtnehgjpphojhlaaDoor.fnDNTTIs
