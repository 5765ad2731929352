/- laws.FnDPackLe16Is returns true at every polynomial. -/
import Derived.Test.YtgkombmhadgioaaDPack16
import Derived.Test.YtgkombmhadgioaaDNums
import Derived.Test.YtgkombmhadgioaaDSpec
import Derived.Lib.Hide
namespace Go.Proofs.Ytgkombmhadgioaa.fnDPackLe16Is
open Go Go.Proofs Go.RowKit Go.Kd
set_option linter.unusedSimpArgs false
theorem plain (f : Nat → Int) (hf : ∀ i, i < 256 → 0 ≤ f i ∧ f i < 16) : ∀ t, t < 128 → pk16 f t = enc f 4 t := by
  intro t ht
  have h1 := hf (2 * t) (by omega)
  have h2 := hf (2 * t + 1) (by omega)
  have e : ∀ s, s < 8 → bitL f 4 (8 * t + s) = f (2 * t + s / 4) / 2 ^ (s % 4) % 2 := fun s hs => by
    unfold bitL
    rw [show (8 * t + s) / 4 = 2 * t + s / 4 by omega, show (8 * t + s) % 4 = s % 4 by omega]
  unfold enc
  simp only [octet]
  rw [e 0 (by omega), e 1 (by omega), e 2 (by omega), e 3 (by omega), e 4 (by omega), e 5 (by omega), e 6 (by omega), e 7 (by omega)]
  simp only [Nat.reduceDiv, Nat.reduceMod, Nat.add_zero]
  unfold pk16
  generalize f (2 * t) = x at *
  generalize f (2 * t + 1) = y at *
  omega
set_option maxRecDepth 100000 in
set_option maxHeartbeats 1000000 in
theorem walk (f : Nat → Int) (hf : ∀ i, i < 256 → (Lit.int .u32 (f i)).wf = true) (w : World) :
    Calls Try.prog 11 #[.agg (cellsF 256 (ints .u32 f))] w fun e w' => e = .returned (.bool true) ∧ Ext w w' := by
  have hb : ∀ i, i < 256 → 0 ≤ f i ∧ f i ≤ 4294967295 := fun i hi => bounds_u32 (hf i hi)
  clear hf
  go_enter Try.func11, Try.ntmps11
  refine wp_region_then ?_
  refine wpList_boxA 27 (.tmp 0) _ rfl rfl rfl ?_
  simp only [Act.put, List.setIfInBounds_toArray, List.set]
  intro w1 bp hp x1 kp
  have X1 := Ext.trans (Ext.refl w) x1
  have z1 := x1.size
  have lp := kp.lt
  refine wpList_val (v := .bool false) rfl rfl ?_
  simp only [Act.put, List.setIfInBounds_toArray, List.set]
  refine wp_next (wp_seq ?_)
  refine wp_region_canon Ext [1, 5, 8, 9] [0, 1, 2, 3, 4, 7, 5, 6, 8, 9, 10, 11, 12, 13] mixed Ext.refl Ext.trans (by decide) (by kernel_rfl) ?_
  intro w2 x2 _
  simp only [pickO, List.getElem?_cons_succ, List.getElem?_cons_zero]
  have X2 := Ext.trans X1 x2
  have z2 := x2.size
  replace kp := kp.ext x2
  refine wpC_loadA arrK (.tmp 1) bp _ (fun _ h => kp.ext h) (size_cellsF _ _) rfl rfl rfl rfl ?_
  simp only [Act.put, List.setIfInBounds_toArray, List.set]
  rcases forallB_or 256 (fun i => f i < 16) with ⟨he, hall⟩ | he
  · have hbq : ∀ i, i < 256 → 0 ≤ f i ∧ f i < 16 := fun i hi => ⟨(hb i hi).1, hall i hi⟩
    refine wpC_callW (V := fun v w => v = .bool true ∧ Ext w2 w) _ _ Try.func16 (by kernel_rfl) (by kernel_rfl) rfl rfl rfl rfl ((below_is f 16 true _ hb (by omega) he).mono fun _ _ ⟨h1, h2⟩ => ⟨_, h1, rfl, h2⟩) ?_
    rintro _ w3 ⟨rfl, x3⟩
    refine ⟨x3, ?_⟩
    simp only [Act.put, List.setIfInBounds_toArray, List.set]
    have X3 := Ext.trans X2 x3
    have z3 := x3.size
    replace kp := kp.ext x3
    refine wpC_val (.bool false) rfl rfl (fun _ _ => rfl) ?_
    simp only [Act.put, List.setIfInBounds_toArray, List.set]
    refine wpC_move (.tmp 5) rfl rfl rfl ?_
    simp only [Act.put, List.setIfInBounds_toArray, List.set]
    refine wpC_loadA arrK (.tmp 1) bp _ (fun _ h => kp.ext h) (size_cellsF _ _) rfl rfl rfl rfl ?_
    simp only [Act.put, List.setIfInBounds_toArray, List.set]
    refine wpC_loadA arrK (.tmp 1) bp _ (fun _ h => kp.ext h) (size_cellsF _ _) rfl rfl rfl rfl ?_
    simp only [Act.put, List.setIfInBounds_toArray, List.set]
    refine wpC_callW (V := fun v w => ∃ b, v = .slice (some ⟨b, 0, none⟩) 128 128 ∧ SlB w b 128 (pk16 f) ∧ Ext w3 w) _ _ Try.func34 (by kernel_rfl) (by kernel_rfl) rfl rfl rfl rfl (dPack16_any f _ hbq) ?_
    rintro _ w4 ⟨bc, rfl, kc, x4⟩
    refine ⟨x4, ?_⟩
    simp only [Act.put, List.setIfInBounds_toArray, List.set]
    have X4 := Ext.trans X3 x4
    have z4 := x4.size
    replace kp := kp.ext x4
    refine wpC_val (.string (strOf 128 (pk16 f))) rfl rfl (fun _ h => run_str Try.underlying46 Try.underlying5 Try.underlying9 (.tmp 8) bc 128 128 _ (kc.ext h) rfl rfl) ?_
    simp only [Act.put, List.setIfInBounds_toArray, List.set]
    refine wpC_callW (V := fun v w => v = .agg (cellsF 256 (ints .i64 f)) ∧ Ext w4 w) _ _ Try.func36 (by kernel_rfl) (by kernel_rfl) rfl rfl rfl rfl ((nums_any f _ hb).mono fun _ _ ⟨h1, h2⟩ => ⟨_, h1, rfl, h2⟩) ?_
    rintro _ w5 ⟨rfl, x5⟩
    refine ⟨x5, ?_⟩
    simp only [Act.put, List.setIfInBounds_toArray, List.set]
    have X5 := Ext.trans X4 x5
    have z5 := x5.size
    replace kp := kp.ext x5
    replace kc := kc.ext x5
    refine wpC_callW (V := fun v w => ∃ b, v = .slice (some ⟨b, 0, none⟩) 128 128 ∧ SlB w b 128 (enc f 4) ∧ Ext w5 w) _ _ Try.func35 (by kernel_rfl) (by kernel_rfl) rfl rfl rfl rfl (enc4_any f _ hb) ?_
    rintro _ w6 ⟨bd, rfl, kd, x6⟩
    refine ⟨x6, ?_⟩
    simp only [Act.put, List.setIfInBounds_toArray, List.set]
    have X6 := Ext.trans X5 x6
    have z6 := x6.size
    replace kp := kp.ext x6
    replace kc := kc.ext x6
    refine wpC_val (.string (strOf 128 (enc f 4))) rfl rfl (fun _ h => run_str Try.underlying46 Try.underlying5 Try.underlying9 (.tmp 12) bd 128 128 _ (kd.ext h) rfl rfl) ?_
    simp only [Act.put, List.setIfInBounds_toArray, List.set]
    rw [strOf_congr (n := 128) (f := pk16 f) (g := enc f 4) (plain f hbq)]
    refine wpC_val (.bool true) rfl rfl (fun _ _ => run_eqlS _ _ (.tmp 9) (.tmp 13) _ rfl rfl rfl) ?_
    simp only [Act.put, List.setIfInBounds_toArray, List.set]
    refine wpC_pick (.tmp 6) (.const (.bool true)) (.tmp 14) false rfl rfl rfl rfl ?_
    simp only [Act.put, List.setIfInBounds_toArray, List.set]
    refine wpC_assign (.tmp 15) rfl rfl rfl ?_
    simp only [Act.put, List.setIfInBounds_toArray, List.set]
    refine wpC_nil ?_
    refine wp_ret ?_
    go_ret
    exact ⟨rfl, X6⟩
  · refine wpC_callW (V := fun v w => v = .bool false ∧ Ext w2 w) _ _ Try.func16 (by kernel_rfl) (by kernel_rfl) rfl rfl rfl rfl ((below_is f 16 false _ hb (by omega) he).mono fun _ _ ⟨h1, h2⟩ => ⟨_, h1, rfl, h2⟩) ?_
    rintro _ w3 ⟨rfl, x3⟩
    refine ⟨x3, ?_⟩
    simp only [Act.put, List.setIfInBounds_toArray, List.set]
    have X3 := Ext.trans X2 x3
    have z3 := x3.size
    replace kp := kp.ext x3
    refine wpC_val (.bool true) rfl rfl (fun _ _ => rfl) ?_
    simp only [Act.put, List.setIfInBounds_toArray, List.set]
    refine wpC_move (.tmp 5) rfl rfl rfl ?_
    simp only [Act.put, List.setIfInBounds_toArray, List.set]
    refine wpC_skip rfl rfl ?_
    simp only [Act.put, List.setIfInBounds_toArray, List.set]
    refine wpC_skip rfl rfl ?_
    simp only [Act.put, List.setIfInBounds_toArray, List.set]
    refine wpC_skipW rfl rfl rfl (Ext.refl _) ?_
    simp only [Act.put, List.setIfInBounds_toArray, List.set]
    refine wpC_skip rfl rfl ?_
    simp only [Act.put, List.setIfInBounds_toArray, List.set]
    refine wpC_skipW rfl rfl rfl (Ext.refl _) ?_
    simp only [Act.put, List.setIfInBounds_toArray, List.set]
    refine wpC_skipW rfl rfl rfl (Ext.refl _) ?_
    simp only [Act.put, List.setIfInBounds_toArray, List.set]
    refine wpC_skip rfl rfl ?_
    simp only [Act.put, List.setIfInBounds_toArray, List.set]
    refine wpC_skip rfl rfl ?_
    simp only [Act.put, List.setIfInBounds_toArray, List.set]
    refine wpC_pick (.tmp 6) (.const (.bool true)) (.tmp 14) true rfl rfl rfl rfl ?_
    simp only [Act.put, List.setIfInBounds_toArray, List.set]
    refine wpC_assign (.tmp 15) rfl rfl rfl ?_
    simp only [Act.put, List.setIfInBounds_toArray, List.set]
    refine wpC_nil ?_
    refine wp_ret ?_
    go_ret
    exact ⟨rfl, X3⟩
end Go.Proofs.Ytgkombmhadgioaa.fnDPackLe16Is
