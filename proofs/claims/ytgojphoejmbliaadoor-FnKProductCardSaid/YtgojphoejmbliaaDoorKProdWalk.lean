/- laws.FnKProduct returns true at every two polynomials, where the tables are those of the text. -/
import Derived.Test.YtgojphoejmbliaaDoorKProdW
import Derived.Test.YtgojphoejmbliaaDoorKInv
import Derived.Test.YtgojphoejmbliaaDoorKNtt
import Derived.Test.YtgojphoejmbliaaDoorKTan
import Derived.Test.YtgojphoejmbliaaDoorKHelp
import Derived.Test.YtgojphoejmbliaaDoorCanon
import Derived.Test.YtgojphoejmbliaaDoorKSpec
import Derived.Test.YtgojphoejmbliaaDoorKMap
import Derived.Test.YtgojphoejmbliaaDoorOnly2
import Derived.Test.YtgojphoejmbliaaDoorTwo
import Derived.Lib.Hide
namespace Go.Proofs.YtgojphoejmbliaaDoor.fnKProduct
open Go Go.Proofs Go.RowKit Go.Kd
set_option linter.unusedSimpArgs false
set_option linter.unusedVariables false

theorem within_is (f : Nat → Int) (n : Int) (v : Bool) (w : World) (hb : ∀ i, i < 256 → -32768 ≤ f i ∧ f i ≤ 32767) (hn : 0 ≤ n ∧ n ≤ 1000000) (he : forallB 256 (fun i => -n ≤ f i ∧ f i ≤ n) = v) :
    Calls Tryd.prog 8 #[.agg (cellsF 256 (ints .i16 f)), .int .i64 n] w fun e w' => e = .returned (.bool v) ∧ Ext w w' := by
  subst he
  exact within_any f n w hb hn
theorem normal_is (f : Nat → Int) (v : Bool) (w : World) (hb : ∀ i, i < 256 → -32768 ≤ f i ∧ f i ≤ 32767) (he : forallB 256 (fun i => 0 ≤ f i ∧ f i < 3329) = v) :
    Calls Tryd.prog 4 #[.agg (cellsF 256 (ints .i16 f))] w fun e w' => e = .returned (.bool v) ∧ Ext w w' := by
  subst he
  exact normal_any f w hb
theorem MK_bd (x y : Nat → Int) (hx : ∀ i, i < 256 → 0 ≤ x i ∧ x i ≤ 3328) (hy : ∀ i, i < 256 → 0 ≤ y i ∧ y i ≤ 3328) : ∀ i, i < 256 → -6658 ≤ MK x y i ∧ MK x y i ≤ 6658 := by
  intro i hi
  have mm : ∀ a b, a < 256 → b < 256 → -3329 ≤ mont (x a * y b) ∧ mont (x a * y b) ≤ 3329 := fun a b ha hb => by
    have h := sq_bd (hx a ha) (hy b hb)
    exact mont_bd _ (by omega)
  have mz : ∀ a, a < 256 → -3329 ≤ mont (mont (x a * y a) * zs.getD (64 + i / 4) 0) ∧ mont (mont (x a * y a) * zs.getD (64 + i / 4) 0) ≤ 3329 := fun a ha => by
    have h := sz_bd (mm a a ha ha) (zs_bd (64 + i / 4) (by omega))
    exact mont_bd _ (by omega)
  unfold MK
  by_cases h0 : i % 4 = 0
  · rw [if_pos h0]
    have h1 := mz (i + 1) (by omega)
    have h2 := mm i i hi hi
    omega
  · rw [if_neg h0]
    by_cases h2 : i % 4 = 2
    · rw [if_pos h2]
      have h3 := mz (i + 1) (by omega)
      have h4 := mm i i hi hi
      omega
    · rw [if_neg h2]
      have h3 := mm (i - 1) i (by omega) hi
      have h4 := mm i (i - 1) hi (by omega)
      omega
theorem IK_bd (g : Nat → Int) (hg : ∀ i, i < 256 → -3329 ≤ g i ∧ g i ≤ 3329) : ∀ i, i < 256 → -3329 ≤ IK g i ∧ IK g i ≤ 3329 := by
  intro i hi
  have h1 := GK_bd g hg 7 (by omega) i hi
  have h2 := alpha9 7 i (by omega) hi
  exact mont_bd _ (by omega)
set_option maxRecDepth 100000 in
set_option maxHeartbeats 4000000 in
theorem walk (f : Nat → Int) (hf : ∀ i, i < 256 → (Lit.int .i16 (f i)).wf = true) (g : Nat → Int) (hg : ∀ i, i < 256 → (Lit.int .i16 (g i)).wf = true) (w : World) (hz : ZetasIn w) (hrd : RedsIn w) :
    Calls Tryd.prog 3 #[.agg (cellsF 256 (ints .i16 f)), .agg (cellsF 256 (ints .i16 g))] w fun e w' => e = .returned (.bool true) ∧ Ext w w' := by
  have hb : ∀ i, i < 256 → -32768 ≤ f i ∧ f i ≤ 32767 := fun i hi => bounds_i16 (hf i hi)
  have hc : ∀ i, i < 256 → -32768 ≤ g i ∧ g i ≤ 32767 := fun i hi => bounds_i16 (hg i hi)
  clear hf hg
  go_enter Tryd.func3, Tryd.ntmps3
  refine wp_region_then ?_
  refine wpList_boxA 23 (.tmp 0) _ rfl rfl rfl ?_
  simp only [Act.put, List.setIfInBounds_toArray, List.set]
  intro w1 bp hp x1 kp
  have X1 := Ext.trans (Ext.refl w) x1
  have z1 := x1.size
  have lp := kp.lt
  refine wpList_boxA 23 (.tmp 1) _ rfl rfl rfl ?_
  simp only [Act.put, List.setIfInBounds_toArray, List.set]
  intro w2 bq hq x2 kq
  have X2 := Ext.trans X1 x2
  have z2 := x2.size
  replace kp := kp.ext x2
  have lq := kq.lt
  refine wpList_val (v := .bool false) rfl rfl ?_
  simp only [Act.put, List.setIfInBounds_toArray, List.set]
  refine wp_next ?_
  have mk1 : True := trivial
  rcases forallB_or 256 (fun i => 0 ≤ f i ∧ f i < 3329) with ⟨he, hall⟩ | he
  · have HC := fun w => Lib.hid (normal_is f true w hb he)
    clear he
    rcases forallB_or 256 (fun i => 0 ≤ g i ∧ g i < 3329) with ⟨he2, hall2⟩ | he2
    · have HC2 := fun w => Lib.hid (normal_is g true w hc he2)
      have hfq : ∀ i, i < 256 → -3329 ≤ f i ∧ f i ≤ 3329 := fun i hi => by have := hall i hi; omega
      have hgq : ∀ i, i < 256 → -3329 ≤ g i ∧ g i ≤ 3329 := fun i hi => by have := hall2 i hi; omega
      have hF : ∀ q : Nat → Int, (∀ i, i < 256 → -3329 ≤ q i ∧ q i ≤ 3329) → ∀ i, i < 256 → -32768 ≤ FK q 7 i ∧ FK q 7 i ≤ 32767 := fun q hq i hi => by have h := FK_bd q hq 7 (by omega) i hi; omega
      have hred : ∀ v : Int, -32768 ≤ v ∧ v ≤ 32767 → 0 ≤ csub (barrett v) ∧ csub (barrett v) ≤ 3328 ∧ csub (barrett v) % 3329 = v % 3329 := fun v hv => by
        have h1 := norm_bd v hv
        have h2 := norm_mod v hv
        omega
      obtain ⟨x, ex⟩ : ∃ x : Nat → Int, x = fun i => csub (barrett (FK f 7 i)) := ⟨_, rfl⟩
      obtain ⟨y, ey⟩ : ∃ y : Nat → Int, y = fun i => csub (barrett (FK g 7 i)) := ⟨_, rfl⟩
      obtain ⟨m, em⟩ : ∃ m : Nat → Int, m = MK x y := ⟨_, rfl⟩
      obtain ⟨z, ez⟩ : ∃ z : Nat → Int, z = fun i => csub (barrett (m i)) := ⟨_, rfl⟩
      have hx : ∀ i, i < 256 → 0 ≤ x i ∧ x i ≤ 3328 ∧ x i % 3329 = FK f 7 i % 3329 := fun i hi => by rw [ex]; exact hred _ (hF f hfq i hi)
      have hy : ∀ i, i < 256 → 0 ≤ y i ∧ y i ≤ 3328 ∧ y i % 3329 = FK g 7 i % 3329 := fun i hi => by rw [ey]; exact hred _ (hF g hgq i hi)
      have hxb : ∀ i, i < 256 → 0 ≤ x i ∧ x i ≤ 3328 := fun i hi => ⟨(hx i hi).1, (hx i hi).2.1⟩
      have hyb : ∀ i, i < 256 → 0 ≤ y i ∧ y i ≤ 3328 := fun i hi => ⟨(hy i hi).1, (hy i hi).2.1⟩
      have hmb : ∀ i, i < 256 → -6658 ≤ m i ∧ m i ≤ 6658 := by rw [em]; exact MK_bd x y hxb hyb
      have hm16 : ∀ i, i < 256 → -32768 ≤ m i ∧ m i ≤ 32767 := fun i hi => by have h := hmb i hi; omega
      have hzz : ∀ i, i < 256 → 0 ≤ z i ∧ z i ≤ 3328 ∧ z i % 3329 = m i % 3329 := fun i hi => by rw [ez]; exact hred _ (hm16 i hi)
      have hzb : ∀ i, i < 256 → -3329 ≤ z i ∧ z i ≤ 3329 := fun i hi => by have h := hzz i hi; omega
      have HM1 := fun w1 => Lib.hid (kNormalize_any (FK f 7) w1 (hF f hfq))
      have HM2 := fun w1 => Lib.hid (kNormalize_any (FK g 7) w1 (hF g hgq))
      have HM3 := fun w1 => Lib.hid (kNormalize_any m w1 hm16)
      have HMU := fun w1 (h : ZetasIn w1) => Lib.hid (kMul_any x y w1 h hxb hyb)
      rw [← ex] at HM1
      rw [← ey] at HM2
      rw [← ez] at HM3
      rw [← em] at HMU
      have hI := IK_bd z hzb
      have hE : ∀ i, i < 256 → pI (fun i => f i % 3329) (fun i => g i % 3329) 256 i = IK z i % 3329 := prod_is f g x y z (fun i hi => (hx i hi).2.2) (fun i hi => (hy i hi).2.2) (fun i hi => by rw [← em]; exact (hzz i hi).2.2)
      have HE := Lib.hid hE
      have HZ := Lib.hid hz
      have HRD := Lib.hid hrd
      have HB := Lib.hid hb
      have HCB := Lib.hid hc
      have HI := Lib.hid hI
      have HZB := Lib.hid hzb
      have HMB := Lib.hid hmb
      have HM16 := Lib.hid hm16
      have HFQ := Lib.hid hfq
      have HGQ := Lib.hid hgq
      clear hz hrd hb hc hI hzb hmb hm16 hfq hgq hF hred ex ey em ez hx hy hxb hyb hzz hE hall hall2 he2
      go_wp2_with (first | (refine wpList_loadA arrK (.tmp 2) bp _ kp (size_cellsF _ _) rfl rfl rfl ?_; simp only [Act.put, List.setIfInBounds_toArray, List.set]) | (refine wpList_loadA arrK (.tmp 3) bq _ kq (size_cellsF _ _) rfl rfl rfl ?_; simp only [Act.put, List.setIfInBounds_toArray, List.set]) | (go_at_call 4; clear mk1; refine (HC _).out.mono ?_; rintro e w3 ⟨rfl, x3⟩; have X3 := Ext.trans X2 x3; replace kp := kp.ext x3; replace kq := kq.ext x3) | (go_at_call 4; refine (HC2 _).out.mono ?_; rintro e w4 ⟨rfl, x4⟩; have X4 := Ext.trans X3 x4; replace kp := kp.ext x4; replace kq := kq.ext x4))
      refine wp_region_two 6 _ _ _ _ 23 23 256 256 5 6 (.tmp 18) (.tmp 21) _ _ mixed (by kernel_rfl) rfl arrK arrK zeroK zeroK (size_cellsF _ _) (size_cellsF _ _) ⟨rfl, rfl, rfl⟩ ⟨rfl, rfl, rfl⟩ ⟨rfl, rfl, rfl⟩ ⟨rfl, rfl, rfl⟩ (by decide) ?_
      simp only [List.take_succ_cons, List.take_zero]
      refine wpDet_loadA arrK (.tmp 2) bp _ kp (size_cellsF _ _) rfl rfl rfl ?_
      simp only [Act.put, List.setIfInBounds_toArray, List.set]
      refine wpDet_call (.agg (cellsF 256 (ints .i16 (FK f 7)))) _ _ Tryd.func6 (by kernel_rfl) (by kernel_rfl) rfl rfl (fun w hx => kNTT_any f w (HZ.out.ext (Ext.trans X4 hx)) HFQ.out) ?_
      simp only [Act.put, List.setIfInBounds_toArray, List.set]
      refine wpDet_call (.agg (cellsF 256 (ints .i16 (x)))) _ _ Tryd.func5 (by kernel_rfl) (by kernel_rfl) rfl rfl (fun w _ => (HM1 w).out) ?_
      simp only [Act.put, List.setIfInBounds_toArray, List.set]
      refine wpDet_loadA arrK (.tmp 3) bq _ kq (size_cellsF _ _) rfl rfl rfl ?_
      simp only [Act.put, List.setIfInBounds_toArray, List.set]
      refine wpDet_call (.agg (cellsF 256 (ints .i16 (FK g 7)))) _ _ Tryd.func6 (by kernel_rfl) (by kernel_rfl) rfl rfl (fun w hx => kNTT_any g w (HZ.out.ext (Ext.trans X4 hx)) HGQ.out) ?_
      simp only [Act.put, List.setIfInBounds_toArray, List.set]
      refine wpDet_call (.agg (cellsF 256 (ints .i16 (y)))) _ _ Tryd.func5 (by kernel_rfl) (by kernel_rfl) rfl rfl (fun w _ => (HM2 w).out) ?_
      simp only [Act.put, List.setIfInBounds_toArray, List.set]
      refine ⟨_, _, size_cellsF _ _, size_cellsF _ _, one_cellsF _ _ _, one_cellsF _ _ _, fun _ _ => ⟨rfl, rfl, rfl, rfl⟩, ?_⟩
      intro bx bv w5 hx hv hne5 x5 kx kv
      simp only [List.setIfInBounds_toArray, List.set]
      have X5 := Ext.trans X4 x5
      have z5 := x5.size
      replace kp := kp.ext x5
      replace kq := kq.ext x5
      have lx := kx.lt
      have lv := kv.lt
      go_wp2_with (first | (refine wpList_loadA arrK (.tmp 5) bx _ kx (size_cellsF _ _) rfl rfl rfl ?_; simp only [Act.put, List.setIfInBounds_toArray, List.set]) | (refine wpList_loadA arrK (.tmp 6) bv _ kv (size_cellsF _ _) rfl rfl rfl ?_; simp only [Act.put, List.setIfInBounds_toArray, List.set]) | (go_at_call 7; refine (HMU _ (HZ.out.ext X5)).out.mono ?_; rintro e w7 ⟨rfl, x7⟩; have X7 := Ext.trans X5 x7; replace kp := kp.ext x7; replace kq := kq.ext x7; have lp7 := kp.lt; have lq7 := kq.lt) | (refine wpList_allocA 23 _ _ zeroK rfl rfl ?_; simp only [Act.put, List.setIfInBounds_toArray, List.set]; intro w8 bg hg x8 kg; have X8 := Ext.trans X7 x8; replace kp := kp.ext x8; replace kq := kq.ext x8; have zz1 := X7.size) | (refine wpList_storeA arrK (.tmp 7) (.tmp 24) bg _ _ kg (size_cellsF _ _) (size_cellsF _ _) (one_cellsF _ _ _) rfl rfl rfl rfl ?_; simp only [Act.put]; clear kg; intro w9 o9 kg; have X9 := o9.ext X8 (by omega); replace kp := o9.blk (by omega) kp; replace kq := o9.blk (by omega) kq))
      refine wp_region_canon Ext [1, 4, 6, 7, 9, 10, 11, 14, 15] [0, 1, 2, 3, 5, 8, 4, 6, 7, 9, 10, 11, 12, 13, 16, 14, 15, 17, 18, 19] mixed Ext.refl Ext.trans (by decide) (by kernel_rfl) ?_
      intro w10 x10 _
      simp only [pickO, List.getElem?_cons_succ, List.getElem?_cons_zero]
      have X10 := Ext.trans X9 x10
      have z10 := x10.size
      replace kp := kp.ext x10
      replace kq := kq.ext x10
      replace kg := kg.ext x10
      refine wpC_loadA arrK (.tmp 7) bg _ (fun _ h => kg.ext h) (size_cellsF _ _) rfl rfl rfl rfl ?_
      simp only [Act.put, List.setIfInBounds_toArray, List.set]
      refine wpC_callW (V := fun v w => v = .bool true ∧ Ext w10 w) _ _ Tryd.func8 (by kernel_rfl) (by kernel_rfl) rfl rfl rfl rfl ((within_is m 6658 true _ HM16.out (by omega) (forallB_true fun i hi => HMB.out i hi)).mono fun _ _ ⟨h1, h2⟩ => ⟨_, h1, rfl, h2⟩) ?_
      rintro _ w11 ⟨rfl, x11⟩
      refine ⟨x11, ?_⟩
      simp only [Act.put, List.setIfInBounds_toArray, List.set]
      have X11 := Ext.trans X10 x11
      have z11 := x11.size
      replace kp := kp.ext x11
      replace kq := kq.ext x11
      replace kg := kg.ext x11
      refine wpC_move (.tmp 26) rfl rfl rfl ?_
      simp only [Act.put, List.setIfInBounds_toArray, List.set]
      refine wpC_loadA arrK (.tmp 2) bp _ (fun _ h => kp.ext h) (size_cellsF _ _) rfl rfl rfl rfl ?_
      simp only [Act.put, List.setIfInBounds_toArray, List.set]
      refine wpC_loadA arrK (.tmp 3) bq _ (fun _ h => kq.ext h) (size_cellsF _ _) rfl rfl rfl rfl ?_
      simp only [Act.put, List.setIfInBounds_toArray, List.set]
      refine wpC_loadA arrK (.tmp 7) bg _ (fun _ h => kg.ext h) (size_cellsF _ _) rfl rfl rfl rfl ?_
      simp only [Act.put, List.setIfInBounds_toArray, List.set]
      refine wpC_callW (V := fun v w => v = .agg (cellsF 256 (ints .i64 (fun i => f i % 3329))) ∧ Ext w11 w) _ _ Tryd.func9 (by kernel_rfl) (by kernel_rfl) rfl rfl rfl rfl ((of_any f _ HB.out).mono fun _ _ ⟨h1, h2⟩ => ⟨_, h1, rfl, h2⟩) ?_
      rintro _ w12 ⟨rfl, x12⟩
      refine ⟨x12, ?_⟩
      simp only [Act.put, List.setIfInBounds_toArray, List.set]
      have X12 := Ext.trans X11 x12
      have z12 := x12.size
      replace kp := kp.ext x12
      replace kq := kq.ext x12
      replace kg := kg.ext x12
      refine wpC_callW (V := fun v w => v = .agg (cellsF 256 (ints .i64 (fun i => g i % 3329))) ∧ Ext w12 w) _ _ Tryd.func9 (by kernel_rfl) (by kernel_rfl) rfl rfl rfl rfl ((of_any g _ HCB.out).mono fun _ _ ⟨h1, h2⟩ => ⟨_, h1, rfl, h2⟩) ?_
      rintro _ w13 ⟨rfl, x13⟩
      refine ⟨x13, ?_⟩
      simp only [Act.put, List.setIfInBounds_toArray, List.set]
      have X13 := Ext.trans X12 x13
      have z13 := x13.size
      replace kp := kp.ext x13
      replace kq := kq.ext x13
      replace kg := kg.ext x13
      refine wpC_callW (V := fun v w => v = .agg (cellsF 256 (ints .i64 (pI (fun i => f i % 3329) (fun i => g i % 3329) 256))) ∧ Ext w13 w) _ _ Tryd.func10 (by kernel_rfl) (by kernel_rfl) rfl rfl rfl rfl ((sProd_any (fun i => f i % 3329) (fun i => g i % 3329) _ (fun i _ => by omega) (fun i _ => by omega)).mono fun _ _ ⟨h1, h2⟩ => ⟨_, h1, rfl, h2⟩) ?_
      rintro _ w14 ⟨rfl, x14⟩
      refine ⟨x14, ?_⟩
      simp only [Act.put, List.setIfInBounds_toArray, List.set]
      have X14 := Ext.trans X13 x14
      have z14 := x14.size
      replace kp := kp.ext x14
      replace kq := kq.ext x14
      replace kg := kg.ext x14
      refine wpC_callW (V := fun v w => v = .agg (cellsF 256 (ints .i16 (z))) ∧ Ext w14 w) _ _ Tryd.func5 (by kernel_rfl) (by kernel_rfl) rfl rfl rfl rfl (((HM3 _).out).mono fun _ _ ⟨h1, h2⟩ => ⟨_, h1, rfl, h2⟩) ?_
      rintro _ w15 ⟨rfl, x15⟩
      refine ⟨x15, ?_⟩
      simp only [Act.put, List.setIfInBounds_toArray, List.set]
      have X15 := Ext.trans X14 x15
      have z15 := x15.size
      replace kp := kp.ext x15
      replace kq := kq.ext x15
      replace kg := kg.ext x15
      refine wpC_callW (V := fun v w => v = .agg (cellsF 256 (ints .i16 (IK z))) ∧ Ext w15 w) _ _ Tryd.func12 (by kernel_rfl) (by kernel_rfl) rfl rfl rfl rfl ((kInvNTT_any z _ (HZ.out.ext X15) (HRD.out.ext X15) HZB.out).mono fun _ _ ⟨h1, h2⟩ => ⟨_, h1, rfl, h2⟩) ?_
      rintro _ w16 ⟨rfl, x16⟩
      refine ⟨x16, ?_⟩
      simp only [Act.put, List.setIfInBounds_toArray, List.set]
      have X16 := Ext.trans X15 x16
      have z16 := x16.size
      replace kp := kp.ext x16
      replace kq := kq.ext x16
      replace kg := kg.ext x16
      refine wpC_callW (V := fun v w => v = .bool true ∧ Ext w16 w) _ _ Tryd.func11 (by kernel_rfl) (by kernel_rfl) rfl rfl rfl rfl ((is_any (pI (fun i => f i % 3329) (fun i => g i % 3329) 256) (IK z) _ (fun i hi => by have h := HI.out i hi; omega) HE.out).mono fun _ _ ⟨h1, h2⟩ => ⟨_, h1, rfl, h2⟩) ?_
      rintro _ w17 ⟨rfl, x17⟩
      refine ⟨x17, ?_⟩
      simp only [Act.put, List.setIfInBounds_toArray, List.set]
      have X17 := Ext.trans X16 x17
      have z17 := x17.size
      replace kp := kp.ext x17
      replace kq := kq.ext x17
      replace kg := kg.ext x17
      refine wpC_pick (.tmp 27) (.tmp 36) (.const (.bool false)) true rfl rfl rfl rfl ?_
      simp only [Act.put, List.setIfInBounds_toArray, List.set]
      refine wpC_move (.tmp 37) rfl rfl rfl ?_
      simp only [Act.put, List.setIfInBounds_toArray, List.set]
      refine wpC_val (.agg (zeros 256 .i16)) rfl rfl (fun _ _ => run_build0 intK _ zeroK rfl) ?_
      simp only [Act.put, List.setIfInBounds_toArray, List.set]
      refine wpC_callW (V := fun v w => v = .agg (cellsF 256 (ints .i16 (oneF))) ∧ Ext w17 w) _ _ Tryd.func13 (by kernel_rfl) (by kernel_rfl) rfl rfl rfl rfl ((one_any _).mono fun _ _ ⟨h1, h2⟩ => ⟨_, h1, rfl, h2⟩) ?_
      rintro _ w18 ⟨rfl, x18⟩
      refine ⟨x18, ?_⟩
      simp only [Act.put, List.setIfInBounds_toArray, List.set]
      have X18 := Ext.trans X17 x18
      have z18 := x18.size
      replace kp := kp.ext x18
      replace kq := kq.ext x18
      replace kg := kg.ext x18
      refine wpC_callW (V := fun v w => v = .agg (cellsF 256 (ints .i16 (FK oneF 7))) ∧ Ext w18 w) _ _ Tryd.func6 (by kernel_rfl) (by kernel_rfl) rfl rfl rfl rfl ((kNTT_any oneF _ (HZ.out.ext X18) (fun i _ => by unfold oneF; split <;> omega)).mono fun _ _ ⟨h1, h2⟩ => ⟨_, h1, rfl, h2⟩) ?_
      rintro _ w19 ⟨rfl, x19⟩
      refine ⟨x19, ?_⟩
      simp only [Act.put, List.setIfInBounds_toArray, List.set]
      have X19 := Ext.trans X18 x19
      have z19 := x19.size
      replace kp := kp.ext x19
      replace kq := kq.ext x19
      replace kg := kg.ext x19
      refine wpC_val (.bool true) rfl rfl (fun _ _ => (run_neq intK (.tmp 40) (.tmp 41) _ (FK oneF 7) (fun _ => 0) rfl rfl rfl).trans (by rw [ne_dec 0 (by omega) (by rw [(FK_one oneF rfl (fun i h => if_neg (by omega)) 7 (by omega)).1]; decide)])) ?_
      simp only [Act.put, List.setIfInBounds_toArray, List.set]
      refine wpC_pick (.tmp 38) (.tmp 42) (.const (.bool false)) true rfl rfl rfl rfl ?_
      simp only [Act.put, List.setIfInBounds_toArray, List.set]
      refine wpC_assign (.tmp 43) rfl rfl rfl ?_
      simp only [Act.put, List.setIfInBounds_toArray, List.set]
      refine wpC_nil ?_
      go_wp2_with fail
      go_ret
      exact ⟨rfl, X19⟩
    · have HC2 := fun w => Lib.hid (normal_is g false w hc he2)
      clear hb hc he2 hz hrd hall
      go_wp2_with (first | (refine wpList_loadA arrK (.tmp 2) bp _ kp (size_cellsF _ _) rfl rfl rfl ?_; simp only [Act.put, List.setIfInBounds_toArray, List.set]) | (refine wpList_loadA arrK (.tmp 3) bq _ kq (size_cellsF _ _) rfl rfl rfl ?_; simp only [Act.put, List.setIfInBounds_toArray, List.set]) | (go_at_call 4; clear mk1; refine (HC _).out.mono ?_; rintro e w3 ⟨rfl, x3⟩; have X3 := Ext.trans X2 x3; replace kp := kp.ext x3; replace kq := kq.ext x3) | (go_at_call 4; refine (HC2 _).out.mono ?_; rintro e w4 ⟨rfl, x4⟩; have X4 := Ext.trans X3 x4; replace kp := kp.ext x4; replace kq := kq.ext x4))
      go_ret
      exact ⟨rfl, X4⟩
  · have HC := fun w => Lib.hid (normal_is f false w hb he)
    clear hb hc he hz hrd
    go_wp2_with (first | (refine wpList_loadA arrK (.tmp 2) bp _ kp (size_cellsF _ _) rfl rfl rfl ?_; simp only [Act.put, List.setIfInBounds_toArray, List.set]) | (go_at_call 4; clear mk1; refine (HC _).out.mono ?_; rintro e w3 ⟨rfl, x3⟩; have X3 := Ext.trans X2 x3; replace kp := kp.ext x3; replace kq := kq.ext x3))
    go_ret
    exact ⟨rfl, X3⟩
end Go.Proofs.YtgojphoejmbliaaDoor.fnKProduct
