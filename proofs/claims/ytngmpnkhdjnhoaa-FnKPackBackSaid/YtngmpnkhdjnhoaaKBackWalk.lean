/- laws.FnKPackBack returns true at every polynomial. -/
import Derived.Test.YtngmpnkhdjnhoaaKUnpB
import Derived.Test.YtngmpnkhdjnhoaaCanon
import Derived.Test.YtngmpnkhdjnhoaaOnly2
import Derived.Lib.Hide
namespace Go.Proofs.Ytngmpnkhdjnhoaa.fnKPackBack
open Go Go.Proofs Go.RowKit Go.Kd
set_option linter.unusedSimpArgs false
set_option linter.unusedVariables false
set_option maxRecDepth 100000 in
set_option maxHeartbeats 1000000 in
theorem walk (f : Nat → Int) (hf : ∀ i, i < 256 → (Lit.int .i16 (f i)).wf = true) (w : World) :
    Calls Try.prog 5 #[.agg (cellsF 256 (ints .i16 f))] w fun e w' => e = .returned (.bool true) ∧ Ext w w' := by
  have hb : ∀ i, i < 256 → -32768 ≤ f i ∧ f i ≤ 32767 := fun i hi => bounds_i16 (hf i hi)
  clear hf
  go_enter Try.func5, Try.ntmps5
  refine wp_region_then ?_
  refine wpList_boxA 23 (.tmp 0) _ rfl rfl rfl ?_
  simp only [Act.put, List.setIfInBounds_toArray, List.set]
  intro w1 bp hp x1 kp
  have X1 := Ext.trans (Ext.refl w) x1
  have z1 := x1.size
  have lp := kp.lt
  refine wpList_val (v := .bool false) rfl rfl ?_
  simp only [Act.put, List.setIfInBounds_toArray, List.set]
  refine wp_next ?_
  rcases forallB_or 256 (fun i => 0 ≤ f i ∧ f i < 3329) with ⟨he, hall⟩ | he
  · have HC := fun w => Lib.hid (normal_is f true w hb he)
    clear he
    go_wp2_with (first | (refine wpList_loadA arrK (.tmp 1) bp _ kp (size_cellsF _ _) rfl rfl rfl ?_; simp only [Act.put, List.setIfInBounds_toArray, List.set]))
    refine (HC _).out.mono ?_
    rintro e w2 ⟨rfl, x2⟩
    have X2 := Ext.trans X1 x2
    have z2 := x2.size
    replace kp := kp.ext x2
    clear HC
    have hbq : ∀ i, i < 256 → 0 ≤ f i ∧ f i ≤ 4095 := fun i hi => by have := hall i hi; omega
    have HP := fun w => Lib.hid (kPack_any f w hbq)
    have HU := fun b c w (h : SlB w b 384 (enc f 12)) => Lib.hid (kUnpack_any b 0 c (enc f 12) f w (slB_slO h) (fun i _ => enc_bd f 12 i) (u12_0 f hbq) (u12_1 f hbq))
    clear hb hbq hall
    go_wp2_with (first | (refine wpList_loadA arrK (.tmp 1) bp _ kp (size_cellsF _ _) rfl rfl rfl ?_; simp only [Act.put, List.setIfInBounds_toArray, List.set]) | (go_at_call 11; refine (HP _).out.mono ?_; rintro e w3 ⟨v, rfl, bc, rfl, kc, x3⟩; have X3 := Ext.trans X2 x3; replace kp := kp.ext x3) | (go_at_call 15; refine (HU bc _ _ kc).out.mono ?_; rintro e w4 ⟨rfl, x4⟩; have X4 := Ext.trans X3 x4; replace kp := kp.ext x4; have lp4 := kp.lt) | (refine wpList_allocA 23 _ _ zeroK rfl rfl ?_; simp only [Act.put, List.setIfInBounds_toArray, List.set]; intro w5 bg hg x5 kg; have X5 := Ext.trans X4 x5; replace kp := kp.ext x5; have zz := X4.size) | (refine wpList_storeA arrK (.tmp 3) (.tmp 12) bg _ _ kg (size_cellsF _ _) (size_cellsF _ _) (one_cellsF _ _ _) rfl rfl rfl rfl ?_; simp only [Act.put]; clear kg; intro w6 o6 kg; have X6 := o6.ext X5 (by omega); replace kp := o6.blk (by omega) kp) | (refine wpList_loadA arrK (.tmp 3) bg _ kg (size_cellsF _ _) rfl rfl rfl ?_; simp only [Act.put, List.setIfInBounds_toArray, List.set]) | (refine wpList_eql intK (.tmp 16) (.tmp 17) _ f f true (eq_dec fun _ _ => rfl) rfl rfl rfl rfl ?_; simp only [Act.put, List.setIfInBounds_toArray, List.set]))
    go_ret
    exact ⟨rfl, X6⟩
  · have HC := fun w => Lib.hid (normal_is f false w hb he)
    clear he
    go_wp2_with (first | (refine wpList_loadA arrK (.tmp 1) bp _ kp (size_cellsF _ _) rfl rfl rfl ?_; simp only [Act.put, List.setIfInBounds_toArray, List.set]))
    refine (HC _).out.mono ?_
    rintro e w2 ⟨rfl, x2⟩
    have X2 := Ext.trans X1 x2
    have z2 := x2.size
    replace kp := kp.ext x2
    clear HC
    clear hb
    go_wp2_with fail
    go_ret
    exact ⟨rfl, X2⟩
end Go.Proofs.Ytngmpnkhdjnhoaa.fnKPackBack
