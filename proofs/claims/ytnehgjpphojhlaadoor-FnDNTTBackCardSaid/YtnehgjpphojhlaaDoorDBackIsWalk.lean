/- laws.FnDNTTBack returns true at every polynomial, where the tables are those of the text. -/
import Derived.Test.YtnehgjpphojhlaaDoorDInv
import Derived.Test.YtnehgjpphojhlaaDoorDTimesS
import Derived.Test.YtnehgjpphojhlaaDoorDMap
import Derived.Test.YtnehgjpphojhlaaDoorDNtt
import Derived.Test.YtnehgjpphojhlaaDoorCanon
import Derived.Test.YtnehgjpphojhlaaDoorDSpec
import Derived.Test.YtnehgjpphojhlaaDoorOnly2
import Derived.Lib.Hide
namespace Go.Proofs.YtnehgjpphojhlaaDoor.fnDNTTBack
open Go Go.Proofs Go.RowKit Go.Kd
set_option linter.unusedSimpArgs false
set_option linter.unusedVariables false


set_option maxRecDepth 100000 in
set_option maxHeartbeats 2000000 in
theorem walk (f : Nat → Int) (hf : ∀ i, i < 256 → (Lit.int .u32 (f i)).wf = true) (w : World) (hz : ZetasIn w) (hiz : InvZetasIn w) :
    Calls Tryd.prog 5 #[.agg (cellsF 256 (ints .u32 f))] w fun e w' => e = .returned (.bool true) ∧ Ext w w' := by
  have hb : ∀ i, i < 256 → 0 ≤ f i ∧ f i ≤ 4294967295 := fun i hi => bounds_u32 (hf i hi)
  clear hf
  go_enter Tryd.func5, Tryd.ntmps5
  refine wp_region_then ?_
  refine wpList_boxA 28 (.tmp 0) _ rfl rfl rfl ?_
  simp only [Act.put, List.setIfInBounds_toArray, List.set]
  intro w1 bp hp x1 kp
  have X1 := Ext.trans (Ext.refl w) x1
  have z1 := x1.size
  have lp := kp.lt
  refine wpList_val (v := .bool false) rfl rfl ?_
  simp only [Act.put, List.setIfInBounds_toArray, List.set]
  refine wp_next ?_
  rcases forallB_or 256 (fun i => f i < 16760834) with ⟨he, hall⟩ | he
  · have hbq : ∀ i, i < 256 → 0 ≤ f i ∧ f i < 16760834 := fun i hi => ⟨(hb i hi).1, hall i hi⟩
    have hF : ∀ i, i < 256 → 0 ≤ FD f 8 i ∧ FD f 8 i ≤ 4294967295 := fun i hi => by have h := FD_bd f hbq 8 (by omega) i hi; omega
    obtain ⟨g, eg⟩ : ∃ g : Nat → Int, g = fun i => red2q (FD f 8 i) := ⟨_, rfl⟩
    have hgn : ∀ i, i < 256 → 0 ≤ g i ∧ g i < 16760834 ∧ g i % 8380417 = FD f 8 i % 8380417 := fun i hi => by
      have h0 := hF i hi
      rw [eg]
      show 0 ≤ red2q _ ∧ red2q _ < 16760834 ∧ red2q _ % 8380417 = _
      generalize FD f 8 i = x at *
      unfold red2q
      omega
    have hI := ID_bd g (fun i hi => by have h := hgn i hi; omega)
    have HC := fun w => Lib.hid (below_is f 16760834 true w hb (by omega) he)
    have HN := fun w1 (h : Ext w w1) => Lib.hid (dNTT_any f w1 (hz.ext h) hbq)
    have HM := fun w1 => Lib.hid (dReduce_any (FD f 8) w1 hF)
    rw [← eg] at HM
    have HV := fun w1 (h : Ext w w1) => Lib.hid (dInvNTT_any g w1 (hiz.ext h) (fun i hi => by have h := hgn i hi; omega))
    have HE := Lib.hid (back_is f g (fun i hi => (hgn i hi).2.2))
    have HZ := Lib.hid hz
    have HB := Lib.hid hb
    have HI := Lib.hid hI
    clear hz hb hall he hF hgn hI hiz hbq eg
    go_wp2_with (first | (refine wpList_loadA arrK (.tmp 1) bp _ kp (size_cellsF _ _) rfl rfl rfl ?_; simp only [Act.put, List.setIfInBounds_toArray, List.set]) | (go_at_call 10; refine (HC _).out.mono ?_; rintro e w2 ⟨rfl, x2⟩; have X2 := Ext.trans X1 x2; replace kp := kp.ext x2; clear HC) | (go_at_call 11; refine (HN _ X2).out.mono ?_; rintro e w3 ⟨rfl, x3⟩; have X3 := Ext.trans X2 x3; replace kp := kp.ext x3; clear HN) | (go_at_call 17; refine (HM _).out.mono ?_; rintro e w4 ⟨rfl, x4⟩; have X4 := Ext.trans X3 x4; replace kp := kp.ext x4; clear HM) | (go_at_call 16; refine (HV _ X4).out.mono ?_; rintro e w5 ⟨rfl, x5⟩; have X5 := Ext.trans X4 x5; replace kp := kp.ext x5; have lp5 := kp.lt; clear HV) | (refine wpList_allocA 28 _ _ zeroK rfl rfl ?_; simp only [Act.put, List.setIfInBounds_toArray, List.set]; intro w6 bg hg x6 kg; have X6 := Ext.trans X5 x6; replace kp := kp.ext x6; have zz1 := X5.size) | (refine wpList_storeA arrK (.tmp 3) (.tmp 10) bg _ _ kg (size_cellsF _ _) (size_cellsF _ _) (one_cellsF _ _ _) rfl rfl rfl rfl ?_; simp only [Act.put]; clear kg; intro w7 o7 kg; have X7 := o7.ext X6 (by omega); replace kp := o7.blk (by omega) kp))
    refine wp_region_canon Ext [1, 4, 5, 7, 10, 11] [0, 1, 2, 3, 6, 4, 5, 7, 8, 9, 12, 10, 11, 13, 14, 15] mixed Ext.refl Ext.trans (by decide) (by kernel_rfl) ?_
    intro w8 x8 _
    simp only [pickO, List.getElem?_cons_succ, List.getElem?_cons_zero]
    have X8 := Ext.trans X7 x8
    have z8 := x8.size
    replace kp := kp.ext x8
    replace kg := kg.ext x8
    refine wpC_loadA arrK (.tmp 3) bg _ (fun _ h => kg.ext h) (size_cellsF _ _) rfl rfl rfl rfl ?_
    simp only [Act.put, List.setIfInBounds_toArray, List.set]
    refine wpC_callW (V := fun v w => v = .bool true ∧ Ext w8 w) _ _ Tryd.func10 (by kernel_rfl) (by kernel_rfl) rfl rfl rfl rfl ((below_is (ID g) 16760835 true _ (fun i hi => by have h := HI.out i hi; omega) (by omega) (forallB_true fun i hi => by have h := HI.out i hi; omega)).mono fun _ _ ⟨h1, h2⟩ => ⟨_, h1, rfl, h2⟩) ?_
    rintro _ w9 ⟨rfl, x9⟩
    refine ⟨x9, ?_⟩
    simp only [Act.put, List.setIfInBounds_toArray, List.set]
    have X9 := Ext.trans X8 x9
    have z9 := x9.size
    replace kp := kp.ext x9
    replace kg := kg.ext x9
    refine wpC_move (.tmp 12) rfl rfl rfl ?_
    simp only [Act.put, List.setIfInBounds_toArray, List.set]
    refine wpC_loadA arrK (.tmp 1) bp _ (fun _ h => kp.ext h) (size_cellsF _ _) rfl rfl rfl rfl ?_
    simp only [Act.put, List.setIfInBounds_toArray, List.set]
    refine wpC_loadA arrK (.tmp 3) bg _ (fun _ h => kg.ext h) (size_cellsF _ _) rfl rfl rfl rfl ?_
    simp only [Act.put, List.setIfInBounds_toArray, List.set]
    refine wpC_callW (V := fun v w => v = .agg (cellsF 256 (ints .i64 (fun i => f i % 8380417))) ∧ Ext w9 w) _ _ Tryd.func12 (by kernel_rfl) (by kernel_rfl) rfl rfl rfl rfl ((of_any f _ HB.out).mono fun _ _ ⟨h1, h2⟩ => ⟨_, h1, rfl, h2⟩) ?_
    rintro _ w10 ⟨rfl, x10⟩
    refine ⟨x10, ?_⟩
    simp only [Act.put, List.setIfInBounds_toArray, List.set]
    have X10 := Ext.trans X9 x10
    have z10 := x10.size
    replace kp := kp.ext x10
    replace kg := kg.ext x10
    refine wpC_callW (V := fun v w => v = .agg (cellsF 256 (ints .i64 (fun i => f i % 8380417 * (4294967296 % 8380417) % 8380417))) ∧ Ext w10 w) _ _ Tryd.func18 (by kernel_rfl) (by kernel_rfl) rfl rfl rfl rfl ((timesD_any (fun i => f i % 8380417) 4294967296 _ (fun i _ => by omega) (by omega)).mono fun _ _ ⟨h1, h2⟩ => ⟨_, h1, rfl, h2⟩) ?_
    rintro _ w11 ⟨rfl, x11⟩
    refine ⟨x11, ?_⟩
    simp only [Act.put, List.setIfInBounds_toArray, List.set]
    have X11 := Ext.trans X10 x11
    have z11 := x11.size
    replace kp := kp.ext x11
    replace kg := kg.ext x11
    refine wpC_callW (V := fun v w => v = .bool true ∧ Ext w11 w) _ _ Tryd.func14 (by kernel_rfl) (by kernel_rfl) rfl rfl rfl rfl ((is_any (fun i => f i % 8380417 * (4294967296 % 8380417) % 8380417) (ID g) _ (fun i hi => by have h := HI.out i hi; omega) HE.out).mono fun _ _ ⟨h1, h2⟩ => ⟨_, h1, rfl, h2⟩) ?_
    rintro _ w12 ⟨rfl, x12⟩
    refine ⟨x12, ?_⟩
    simp only [Act.put, List.setIfInBounds_toArray, List.set]
    have X12 := Ext.trans X11 x12
    have z12 := x12.size
    replace kp := kp.ext x12
    replace kg := kg.ext x12
    refine wpC_pick (.tmp 13) (.tmp 18) (.const (.bool false)) true rfl rfl rfl rfl ?_
    simp only [Act.put, List.setIfInBounds_toArray, List.set]
    refine wpC_move (.tmp 19) rfl rfl rfl ?_
    simp only [Act.put, List.setIfInBounds_toArray, List.set]
    refine wpC_val (.agg (zeros 256 .u32)) rfl rfl (fun _ _ => run_build0 intK _ zeroK rfl) ?_
    simp only [Act.put, List.setIfInBounds_toArray, List.set]
    refine wpC_callW (V := fun v w => v = .agg (cellsF 256 (ints .u32 (oneF))) ∧ Ext w12 w) _ _ Tryd.func15 (by kernel_rfl) (by kernel_rfl) rfl rfl rfl rfl ((unit_any _).mono fun _ _ ⟨h1, h2⟩ => ⟨_, h1, rfl, h2⟩) ?_
    rintro _ w13 ⟨rfl, x13⟩
    refine ⟨x13, ?_⟩
    simp only [Act.put, List.setIfInBounds_toArray, List.set]
    have X13 := Ext.trans X12 x13
    have z13 := x13.size
    replace kp := kp.ext x13
    replace kg := kg.ext x13
    refine wpC_callW (V := fun v w => v = .agg (cellsF 256 (ints .u32 (FD oneF 8))) ∧ Ext w13 w) _ _ Tryd.func11 (by kernel_rfl) (by kernel_rfl) rfl rfl rfl rfl ((dNTT_any oneF _ (HZ.out.ext X13) (fun i hi => by have h := one_bd i hi; omega)).mono fun _ _ ⟨h1, h2⟩ => ⟨_, h1, rfl, h2⟩) ?_
    rintro _ w14 ⟨rfl, x14⟩
    refine ⟨x14, ?_⟩
    simp only [Act.put, List.setIfInBounds_toArray, List.set]
    have X14 := Ext.trans X13 x14
    have z14 := x14.size
    replace kp := kp.ext x14
    replace kg := kg.ext x14
    refine wpC_val (.bool true) rfl rfl (fun _ _ => (run_neq intK (.tmp 22) (.tmp 23) _ (FD oneF 8) (fun _ => 0) rfl rfl rfl).trans (by rw [ne_dec 0 (by omega) (by rw [(FD_one oneF rfl (fun i h => if_neg (by omega)) 8 (by omega)).1]; decide)])) ?_
    simp only [Act.put, List.setIfInBounds_toArray, List.set]
    refine wpC_pick (.tmp 20) (.tmp 24) (.const (.bool false)) true rfl rfl rfl rfl ?_
    simp only [Act.put, List.setIfInBounds_toArray, List.set]
    refine wpC_assign (.tmp 25) rfl rfl rfl ?_
    simp only [Act.put, List.setIfInBounds_toArray, List.set]
    refine wpC_nil ?_
    go_wp2_with fail
    go_ret
    exact ⟨rfl, X14⟩
  · have HC := fun w => Lib.hid (below_is f 16760834 false w hb (by omega) he)
    clear hb he hz hiz
    go_wp2_with (first | (refine wpList_loadA arrK (.tmp 1) bp _ kp (size_cellsF _ _) rfl rfl rfl ?_; simp only [Act.put, List.setIfInBounds_toArray, List.set]) | (go_at_call 10; refine (HC _).out.mono ?_; rintro e w2 ⟨rfl, x2⟩; have X2 := Ext.trans X1 x2; replace kp := kp.ext x2; clear HC))
    go_ret
    exact ⟨rfl, X2⟩
end Go.Proofs.YtnehgjpphojhlaaDoor.fnDNTTBack
