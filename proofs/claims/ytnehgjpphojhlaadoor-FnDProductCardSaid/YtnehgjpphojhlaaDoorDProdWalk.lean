/- laws.FnDProduct returns true at every two polynomials, where the tables are those of the text. -/
import Derived.Test.YtnehgjpphojhlaaDoorDProdW
import Derived.Test.YtnehgjpphojhlaaDoorDInv
import Derived.Test.YtnehgjpphojhlaaDoorDNtt
import Derived.Test.YtnehgjpphojhlaaDoorCanon
import Derived.Test.YtnehgjpphojhlaaDoorDSpec
import Derived.Test.YtnehgjpphojhlaaDoorOnly2
import Derived.Test.YtnehgjpphojhlaaDoorTwo
import Derived.Lib.Hide
namespace Go.Proofs.YtnehgjpphojhlaaDoor.fnDProduct
open Go Go.Proofs Go.RowKit Go.Kd
set_option linter.unusedSimpArgs false
set_option linter.unusedVariables false

theorem montD_cg (v : Int) : cg (montD v) (8265825 * v) := by
  have h2 := montD_mul v
  obtain ⟨u, hu⟩ : ∃ u, u = (v * 4236238847) % 4294967296 := ⟨_, rfl⟩
  rw [← hu] at h2
  clear hu
  refine ⟨8265825 * u - 4236238847 * montD v, ?_⟩
  generalize montD v = t at *
  omega
theorem val_cg {f g : Nat → Int} (p : Int) (h : ∀ i, i < 256 → cg (f i) (g i)) : cg (val f p) (val g p) := vsum_cg _ fun k hk => (h k hk).mul2 _
theorem FD_cg {f g : Nat → Int} (h : ∀ i, i < 256 → cg (f i) (g i)) (i : Nat) (hi : i < 256) : cg (FD f 8 i) (FD g 8 i) := (FD_is_val f i hi).trans ((val_cg _ h).trans (FD_is_val g i hi).symm)
theorem FD_lin (s : Int) (f : Nat → Int) (i : Nat) (hi : i < 256) : cg (FD (fun k => s * f k) 8 i) (s * FD f 8 i) := by
  refine (FD_is_val _ i hi).trans ?_
  have e : val (fun k => s * f k) (wD 8 i) = s * val f (wD 8 i) := by
    unfold val
    rw [← vsum_mul]
    congr 1
    funext k
    rw [Int.mul_assoc]
  rw [e]
  exact (FD_is_val f i hi).symm.mul s
/-- the product, transformed back -/
theorem prod_is (f g x y : Nat → Int) (hx : ∀ i, i < 256 → x i % 8380417 = FD f 8 i % 8380417) (hy : ∀ i, i < 256 → y i % 8380417 = FD g 8 i % 8380417) : ∀ i, i < 256 →
    pI (fun i => f i % 8380417) (fun i => g i % 8380417) 256 i = ID (fun i => montD (x i * y i)) i % 8380417 := by
  intro i hi
  have hm : ∀ q : Nat → Int, ∀ i, i < 256 → cg (q i % 8380417) (q i) := fun q i _ => cg.of (Int.emod_emod_of_dvd _ (Int.dvd_refl _))
  have h0 : ∀ i, i < 256 → cg (montD (x i * y i)) (FD (fun k => 8265825 * pI (fun i => f i % 8380417) (fun i => g i % 8380417) 256 k) 8 i) := fun i hi => by
    refine (montD_cg _).trans ?_
    refine cg.trans ?_ (FD_lin _ _ i hi).symm
    refine cg.mul _ ?_
    refine cg.trans ?_ (FD_prod _ _ i hi).symm
    have h1 : cg (x i) (FD (fun i => f i % 8380417) 8 i) := (cg.of (hx i hi)).trans (FD_cg (hm f) i hi).symm
    have h2 : cg (y i) (FD (fun i => g i % 8380417) 8 i) := (cg.of (hy i hi)).trans (FD_cg (hm g) i hi).symm
    exact (h1.mul2 _).trans (h2.mul _)
  have h1 := GD_FD _ _ h0 8 (by omega) i hi
  have h2 : cg (GD (fun i => montD (x i * y i)) 8 i) (256 * (8265825 * pI (fun i => f i % 8380417) (fun i => g i % 8380417) 256 i)) := h1
  have h3 := fin_cg h2
  have hb := pI_bd (fun i => f i % 8380417) (fun i => g i % 8380417) 256 i
  show _ = montD (41978 * GD (fun i => montD (x i * y i)) 8 i) % 8380417
  rw [h3.mod]
  generalize pI (fun i => f i % 8380417) (fun i => g i % 8380417) 256 i = p at *
  omega
set_option maxRecDepth 100000 in
set_option maxHeartbeats 4000000 in
theorem walk (f : Nat → Int) (hf : ∀ i, i < 256 → (Lit.int .u32 (f i)).wf = true) (g : Nat → Int) (hg : ∀ i, i < 256 → (Lit.int .u32 (g i)).wf = true) (w : World) (hz : ZetasIn w) (hiz : InvZetasIn w) :
    Calls Tryd.prog 6 #[.agg (cellsF 256 (ints .u32 f)), .agg (cellsF 256 (ints .u32 g))] w fun e w' => e = .returned (.bool true) ∧ Ext w w' := by
  have hb : ∀ i, i < 256 → 0 ≤ f i ∧ f i ≤ 4294967295 := fun i hi => bounds_u32 (hf i hi)
  have hc : ∀ i, i < 256 → 0 ≤ g i ∧ g i ≤ 4294967295 := fun i hi => bounds_u32 (hg i hi)
  clear hf hg
  go_enter Tryd.func6, Tryd.ntmps6
  refine wp_region_then ?_
  refine wpList_boxA 28 (.tmp 0) _ rfl rfl rfl ?_
  simp only [Act.put, List.setIfInBounds_toArray, List.set]
  intro w1 bp hp x1 kp
  have X1 := Ext.trans (Ext.refl w) x1
  have z1 := x1.size
  have lp := kp.lt
  refine wpList_boxA 28 (.tmp 1) _ rfl rfl rfl ?_
  simp only [Act.put, List.setIfInBounds_toArray, List.set]
  intro w2 bq hq x2 kq
  have X2 := Ext.trans X1 x2
  have z2 := x2.size
  replace kp := kp.ext x2
  have lq := kq.lt
  refine wpList_val (v := .bool false) rfl rfl ?_
  simp only [Act.put, List.setIfInBounds_toArray, List.set]
  refine wp_next ?_
  have mk1 : True := trivial
  rcases forallB_or 256 (fun i => f i < 8380417) with ⟨he, hall⟩ | he
  · have HC := fun w => Lib.hid (below_is f 8380417 true w hb (by omega) he)
    clear he
    rcases forallB_or 256 (fun i => g i < 8380417) with ⟨he2, hall2⟩ | he2
    · have HC2 := fun w => Lib.hid (below_is g 8380417 true w hc (by omega) he2)
      have hfq : ∀ i, i < 256 → 0 ≤ f i ∧ f i < 16760834 := fun i hi => ⟨(hb i hi).1, by have := hall i hi; omega⟩
      have hgq : ∀ i, i < 256 → 0 ≤ g i ∧ g i < 16760834 := fun i hi => ⟨(hc i hi).1, by have := hall2 i hi; omega⟩
      have hF : ∀ q : Nat → Int, (∀ i, i < 256 → 0 ≤ q i ∧ q i < 16760834) → ∀ i, i < 256 → 0 ≤ FD q 8 i ∧ FD q 8 i ≤ 4294967295 := fun q hq i hi => by have h := FD_bd q hq 8 (by omega) i hi; omega
      have hred : ∀ v : Int, 0 ≤ v ∧ v ≤ 4294967295 → 0 ≤ red2q v ∧ red2q v < 16760834 ∧ red2q v % 8380417 = v % 8380417 := fun v hv => by unfold red2q; omega
      obtain ⟨x, ex⟩ : ∃ x : Nat → Int, x = fun i => red2q (FD f 8 i) := ⟨_, rfl⟩
      obtain ⟨y, ey⟩ : ∃ y : Nat → Int, y = fun i => red2q (FD g 8 i) := ⟨_, rfl⟩
      have hx : ∀ i, i < 256 → 0 ≤ x i ∧ x i < 16760834 ∧ x i % 8380417 = FD f 8 i % 8380417 := fun i hi => by rw [ex]; exact hred _ (hF f hfq i hi)
      have hy : ∀ i, i < 256 → 0 ≤ y i ∧ y i < 16760834 ∧ y i % 8380417 = FD g 8 i % 8380417 := fun i hi => by rw [ey]; exact hred _ (hF g hgq i hi)
      have HM1 := fun w1 => Lib.hid (dReduce_any (FD f 8) w1 (hF f hfq))
      have HM2 := fun w1 => Lib.hid (dReduce_any (FD g 8) w1 (hF g hgq))
      rw [← ex] at HM1
      rw [← ey] at HM2
      have hzb : ∀ i, i < 256 → 0 ≤ montD (x i * y i) ∧ montD (x i * y i) < 16760834 := fun i hi => by
        have h1 := hx i hi
        have h2 := hy i hi
        have p1 : 0 ≤ x i * y i := Int.mul_nonneg h1.1 h2.1
        have p2 : x i * y i ≤ 16760834 * 16760834 := Int.mul_le_mul (by omega) (by omega) h2.1 (by omega)
        exact montD_bd _ (by omega)
      have hI := ID_bd _ hzb
      have HE := Lib.hid (prod_is f g x y (fun i hi => (hx i hi).2.2) (fun i hi => (hy i hi).2.2))
      have HXX := Lib.hid (fun i (hi : i < 256) => (⟨(hx i hi).1, (hx i hi).2.1⟩ : 0 ≤ x i ∧ x i < 16760834))
      have HYY := Lib.hid (fun i (hi : i < 256) => (⟨(hy i hi).1, (hy i hi).2.1⟩ : 0 ≤ y i ∧ y i < 16760834))
      have HZ := Lib.hid hz
      have HIZ := Lib.hid hiz
      have HB := Lib.hid hb
      have HCB := Lib.hid hc
      have HI := Lib.hid hI
      have HZB := Lib.hid hzb
      have HFQ := Lib.hid hfq
      have HGQ := Lib.hid hgq
      clear hz hiz hb hc hI hzb hfq hgq hF hred ex ey hx hy hall hall2 he2
      go_wp2_with (first | (refine wpList_loadA arrK (.tmp 2) bp _ kp (size_cellsF _ _) rfl rfl rfl ?_; simp only [Act.put, List.setIfInBounds_toArray, List.set]) | (refine wpList_loadA arrK (.tmp 3) bq _ kq (size_cellsF _ _) rfl rfl rfl ?_; simp only [Act.put, List.setIfInBounds_toArray, List.set]) | (go_at_call 10; clear mk1; refine (HC _).out.mono ?_; rintro e w3 ⟨rfl, x3⟩; have X3 := Ext.trans X2 x3; replace kp := kp.ext x3; replace kq := kq.ext x3) | (go_at_call 10; refine (HC2 _).out.mono ?_; rintro e w4 ⟨rfl, x4⟩; have X4 := Ext.trans X3 x4; replace kp := kp.ext x4; replace kq := kq.ext x4))
      refine wp_region_two 6 _ _ _ _ 28 28 256 256 5 6 (.tmp 18) (.tmp 21) _ _ mixed (by kernel_rfl) rfl arrK arrK zeroK zeroK (size_cellsF _ _) (size_cellsF _ _) ⟨rfl, rfl, rfl⟩ ⟨rfl, rfl, rfl⟩ ⟨rfl, rfl, rfl⟩ ⟨rfl, rfl, rfl⟩ (by decide) ?_
      simp only [List.take_succ_cons, List.take_zero]
      refine wpDet_loadA arrK (.tmp 2) bp _ kp (size_cellsF _ _) rfl rfl rfl ?_
      simp only [Act.put, List.setIfInBounds_toArray, List.set]
      refine wpDet_call (.agg (cellsF 256 (ints .u32 (FD f 8)))) _ _ Tryd.func11 (by kernel_rfl) (by kernel_rfl) rfl rfl (fun w hx => dNTT_any f w (HZ.out.ext (Ext.trans X4 hx)) HFQ.out) ?_
      simp only [Act.put, List.setIfInBounds_toArray, List.set]
      refine wpDet_call (.agg (cellsF 256 (ints .u32 (x)))) _ _ Tryd.func17 (by kernel_rfl) (by kernel_rfl) rfl rfl (fun w _ => (HM1 w).out) ?_
      simp only [Act.put, List.setIfInBounds_toArray, List.set]
      refine wpDet_loadA arrK (.tmp 3) bq _ kq (size_cellsF _ _) rfl rfl rfl ?_
      simp only [Act.put, List.setIfInBounds_toArray, List.set]
      refine wpDet_call (.agg (cellsF 256 (ints .u32 (FD g 8)))) _ _ Tryd.func11 (by kernel_rfl) (by kernel_rfl) rfl rfl (fun w hx => dNTT_any g w (HZ.out.ext (Ext.trans X4 hx)) HGQ.out) ?_
      simp only [Act.put, List.setIfInBounds_toArray, List.set]
      refine wpDet_call (.agg (cellsF 256 (ints .u32 (y)))) _ _ Tryd.func17 (by kernel_rfl) (by kernel_rfl) rfl rfl (fun w _ => (HM2 w).out) ?_
      simp only [Act.put, List.setIfInBounds_toArray, List.set]
      refine ⟨_, _, size_cellsF _ _, size_cellsF _ _, one_cellsF _ _ _, one_cellsF _ _ _, fun _ _ => ⟨rfl, rfl, rfl, rfl⟩, ?_⟩
      intro bx bv w5 hx hv hne5 x5 kx kv
      simp only [List.setIfInBounds_toArray, List.set]
      have X5 := Ext.trans X4 x5
      have z5 := x5.size
      replace kp := kp.ext x5
      replace kq := kq.ext x5
      have lx := kx.lt
      have lv := kv.lt
      go_wp2_with (first | (refine wpList_loadA arrK (.tmp 5) bx _ kx (size_cellsF _ _) rfl rfl rfl ?_; simp only [Act.put, List.setIfInBounds_toArray, List.set]) | (refine wpList_loadA arrK (.tmp 6) bv _ kv (size_cellsF _ _) rfl rfl rfl ?_; simp only [Act.put, List.setIfInBounds_toArray, List.set]) | (go_at_call 19; refine (dMul_any x y _ HXX.out HYY.out).mono ?_; rintro e w7 ⟨rfl, x7⟩; have X7 := Ext.trans X5 x7; replace kp := kp.ext x7; replace kq := kq.ext x7; have lp7 := kp.lt; have lq7 := kq.lt) | (refine wpList_allocA 28 _ _ zeroK rfl rfl ?_; simp only [Act.put, List.setIfInBounds_toArray, List.set]; intro w8 bg hg x8 kg; have X8 := Ext.trans X7 x8; replace kp := kp.ext x8; replace kq := kq.ext x8; have zz1 := X7.size) | (refine wpList_storeA arrK (.tmp 7) (.tmp 24) bg _ _ kg (size_cellsF _ _) (size_cellsF _ _) (one_cellsF _ _ _) rfl rfl rfl rfl ?_; simp only [Act.put]; clear kg; intro w9 o9 kg; have X9 := o9.ext X8 (by omega); replace kp := o9.blk (by omega) kp; replace kq := o9.blk (by omega) kq))
      refine wp_region_canon Ext [1, 4, 6, 7, 9, 10, 13, 14] [0, 1, 2, 3, 5, 8, 4, 6, 7, 9, 10, 11, 12, 15, 13, 14, 16, 17, 18] mixed Ext.refl Ext.trans (by decide) (by kernel_rfl) ?_
      intro w10 x10 _
      simp only [pickO, List.getElem?_cons_succ, List.getElem?_cons_zero]
      have X10 := Ext.trans X9 x10
      have z10 := x10.size
      replace kp := kp.ext x10
      replace kq := kq.ext x10
      replace kg := kg.ext x10
      refine wpC_loadA arrK (.tmp 7) bg _ (fun _ h => kg.ext h) (size_cellsF _ _) rfl rfl rfl rfl ?_
      simp only [Act.put, List.setIfInBounds_toArray, List.set]
      refine wpC_callW (V := fun v w => v = .bool true ∧ Ext w10 w) _ _ Tryd.func10 (by kernel_rfl) (by kernel_rfl) rfl rfl rfl rfl ((below_is (fun i => montD (x i * y i)) 16760835 true _ (fun i hi => by have h := HZB.out i hi; omega) (by omega) (forallB_true fun i hi => by have h := HZB.out i hi; omega)).mono fun _ _ ⟨h1, h2⟩ => ⟨_, h1, rfl, h2⟩) ?_
      rintro _ w11 ⟨rfl, x11⟩
      refine ⟨x11, ?_⟩
      simp only [Act.put, List.setIfInBounds_toArray, List.set]
      have X11 := Ext.trans X10 x11
      have z11 := x11.size
      replace kp := kp.ext x11
      replace kq := kq.ext x11
      replace kg := kg.ext x11
      refine wpC_move (.tmp 26) rfl rfl rfl ?_
      simp only [Act.put, List.setIfInBounds_toArray, List.set]
      refine wpC_loadA arrK (.tmp 2) bp _ (fun _ h => kp.ext h) (size_cellsF _ _) rfl rfl rfl rfl ?_
      simp only [Act.put, List.setIfInBounds_toArray, List.set]
      refine wpC_loadA arrK (.tmp 3) bq _ (fun _ h => kq.ext h) (size_cellsF _ _) rfl rfl rfl rfl ?_
      simp only [Act.put, List.setIfInBounds_toArray, List.set]
      refine wpC_loadA arrK (.tmp 7) bg _ (fun _ h => kg.ext h) (size_cellsF _ _) rfl rfl rfl rfl ?_
      simp only [Act.put, List.setIfInBounds_toArray, List.set]
      refine wpC_callW (V := fun v w => v = .agg (cellsF 256 (ints .i64 (fun i => f i % 8380417))) ∧ Ext w11 w) _ _ Tryd.func12 (by kernel_rfl) (by kernel_rfl) rfl rfl rfl rfl ((of_any f _ HB.out).mono fun _ _ ⟨h1, h2⟩ => ⟨_, h1, rfl, h2⟩) ?_
      rintro _ w12 ⟨rfl, x12⟩
      refine ⟨x12, ?_⟩
      simp only [Act.put, List.setIfInBounds_toArray, List.set]
      have X12 := Ext.trans X11 x12
      have z12 := x12.size
      replace kp := kp.ext x12
      replace kq := kq.ext x12
      replace kg := kg.ext x12
      refine wpC_callW (V := fun v w => v = .agg (cellsF 256 (ints .i64 (fun i => g i % 8380417))) ∧ Ext w12 w) _ _ Tryd.func12 (by kernel_rfl) (by kernel_rfl) rfl rfl rfl rfl ((of_any g _ HCB.out).mono fun _ _ ⟨h1, h2⟩ => ⟨_, h1, rfl, h2⟩) ?_
      rintro _ w13 ⟨rfl, x13⟩
      refine ⟨x13, ?_⟩
      simp only [Act.put, List.setIfInBounds_toArray, List.set]
      have X13 := Ext.trans X12 x13
      have z13 := x13.size
      replace kp := kp.ext x13
      replace kq := kq.ext x13
      replace kg := kg.ext x13
      refine wpC_callW (V := fun v w => v = .agg (cellsF 256 (ints .i64 (pI (fun i => f i % 8380417) (fun i => g i % 8380417) 256))) ∧ Ext w13 w) _ _ Tryd.func20 (by kernel_rfl) (by kernel_rfl) rfl rfl rfl rfl ((sProd_any (fun i => f i % 8380417) (fun i => g i % 8380417) _ (fun i _ => by omega) (fun i _ => by omega)).mono fun _ _ ⟨h1, h2⟩ => ⟨_, h1, rfl, h2⟩) ?_
      rintro _ w14 ⟨rfl, x14⟩
      refine ⟨x14, ?_⟩
      simp only [Act.put, List.setIfInBounds_toArray, List.set]
      have X14 := Ext.trans X13 x14
      have z14 := x14.size
      replace kp := kp.ext x14
      replace kq := kq.ext x14
      replace kg := kg.ext x14
      refine wpC_callW (V := fun v w => v = .agg (cellsF 256 (ints .u32 (ID (fun i => montD (x i * y i))))) ∧ Ext w14 w) _ _ Tryd.func16 (by kernel_rfl) (by kernel_rfl) rfl rfl rfl rfl ((dInvNTT_any (fun i => montD (x i * y i)) _ (HIZ.out.ext X14) HZB.out).mono fun _ _ ⟨h1, h2⟩ => ⟨_, h1, rfl, h2⟩) ?_
      rintro _ w15 ⟨rfl, x15⟩
      refine ⟨x15, ?_⟩
      simp only [Act.put, List.setIfInBounds_toArray, List.set]
      have X15 := Ext.trans X14 x15
      have z15 := x15.size
      replace kp := kp.ext x15
      replace kq := kq.ext x15
      replace kg := kg.ext x15
      refine wpC_callW (V := fun v w => v = .bool true ∧ Ext w15 w) _ _ Tryd.func14 (by kernel_rfl) (by kernel_rfl) rfl rfl rfl rfl ((is_any (pI (fun i => f i % 8380417) (fun i => g i % 8380417) 256) (ID (fun i => montD (x i * y i))) _ (fun i hi => by have h := HI.out i hi; omega) HE.out).mono fun _ _ ⟨h1, h2⟩ => ⟨_, h1, rfl, h2⟩) ?_
      rintro _ w16 ⟨rfl, x16⟩
      refine ⟨x16, ?_⟩
      simp only [Act.put, List.setIfInBounds_toArray, List.set]
      have X16 := Ext.trans X15 x16
      have z16 := x16.size
      replace kp := kp.ext x16
      replace kq := kq.ext x16
      replace kg := kg.ext x16
      refine wpC_pick (.tmp 27) (.tmp 35) (.const (.bool false)) true rfl rfl rfl rfl ?_
      simp only [Act.put, List.setIfInBounds_toArray, List.set]
      refine wpC_move (.tmp 36) rfl rfl rfl ?_
      simp only [Act.put, List.setIfInBounds_toArray, List.set]
      refine wpC_val (.agg (zeros 256 .u32)) rfl rfl (fun _ _ => run_build0 intK _ zeroK rfl) ?_
      simp only [Act.put, List.setIfInBounds_toArray, List.set]
      refine wpC_callW (V := fun v w => v = .agg (cellsF 256 (ints .u32 (oneF))) ∧ Ext w16 w) _ _ Tryd.func15 (by kernel_rfl) (by kernel_rfl) rfl rfl rfl rfl ((unit_any _).mono fun _ _ ⟨h1, h2⟩ => ⟨_, h1, rfl, h2⟩) ?_
      rintro _ w17 ⟨rfl, x17⟩
      refine ⟨x17, ?_⟩
      simp only [Act.put, List.setIfInBounds_toArray, List.set]
      have X17 := Ext.trans X16 x17
      have z17 := x17.size
      replace kp := kp.ext x17
      replace kq := kq.ext x17
      replace kg := kg.ext x17
      refine wpC_callW (V := fun v w => v = .agg (cellsF 256 (ints .u32 (FD oneF 8))) ∧ Ext w17 w) _ _ Tryd.func11 (by kernel_rfl) (by kernel_rfl) rfl rfl rfl rfl ((dNTT_any oneF _ (HZ.out.ext X17) (fun i hi => by have h := one_bd i hi; omega)).mono fun _ _ ⟨h1, h2⟩ => ⟨_, h1, rfl, h2⟩) ?_
      rintro _ w18 ⟨rfl, x18⟩
      refine ⟨x18, ?_⟩
      simp only [Act.put, List.setIfInBounds_toArray, List.set]
      have X18 := Ext.trans X17 x18
      have z18 := x18.size
      replace kp := kp.ext x18
      replace kq := kq.ext x18
      replace kg := kg.ext x18
      refine wpC_val (.bool true) rfl rfl (fun _ _ => (run_neq intK (.tmp 39) (.tmp 40) _ (FD oneF 8) (fun _ => 0) rfl rfl rfl).trans (by rw [ne_dec 0 (by omega) (by rw [(FD_one oneF rfl (fun i h => if_neg (by omega)) 8 (by omega)).1]; decide)])) ?_
      simp only [Act.put, List.setIfInBounds_toArray, List.set]
      refine wpC_pick (.tmp 37) (.tmp 41) (.const (.bool false)) true rfl rfl rfl rfl ?_
      simp only [Act.put, List.setIfInBounds_toArray, List.set]
      refine wpC_assign (.tmp 42) rfl rfl rfl ?_
      simp only [Act.put, List.setIfInBounds_toArray, List.set]
      refine wpC_nil ?_
      go_wp2_with fail
      go_ret
      exact ⟨rfl, X18⟩
    · have HC2 := fun w => Lib.hid (below_is g 8380417 false w hc (by omega) he2)
      clear hb hc he2 hz hiz hall
      go_wp2_with (first | (refine wpList_loadA arrK (.tmp 2) bp _ kp (size_cellsF _ _) rfl rfl rfl ?_; simp only [Act.put, List.setIfInBounds_toArray, List.set]) | (refine wpList_loadA arrK (.tmp 3) bq _ kq (size_cellsF _ _) rfl rfl rfl ?_; simp only [Act.put, List.setIfInBounds_toArray, List.set]) | (go_at_call 10; clear mk1; refine (HC _).out.mono ?_; rintro e w3 ⟨rfl, x3⟩; have X3 := Ext.trans X2 x3; replace kp := kp.ext x3; replace kq := kq.ext x3) | (go_at_call 10; refine (HC2 _).out.mono ?_; rintro e w4 ⟨rfl, x4⟩; have X4 := Ext.trans X3 x4; replace kp := kp.ext x4; replace kq := kq.ext x4))
      go_ret
      exact ⟨rfl, X4⟩
  · have HC := fun w => Lib.hid (below_is f 8380417 false w hb (by omega) he)
    clear hb hc he hz hiz
    go_wp2_with (first | (refine wpList_loadA arrK (.tmp 2) bp _ kp (size_cellsF _ _) rfl rfl rfl ?_; simp only [Act.put, List.setIfInBounds_toArray, List.set]) | (go_at_call 10; clear mk1; refine (HC _).out.mono ?_; rintro e w3 ⟨rfl, x3⟩; have X3 := Ext.trans X2 x3; replace kp := kp.ext x3; replace kq := kq.ext x3))
    go_ret
    exact ⟨rfl, X3⟩
end Go.Proofs.YtnehgjpphojhlaaDoor.fnDProduct
