/- laws.FnKCompressIs returns true at every polynomial and number. -/
import Derived.Test.YtngmpnkhdjnhoaaKCd4B
import Derived.Test.YtngmpnkhdjnhoaaKCd5B
import Derived.Test.YtngmpnkhdjnhoaaKCd10B
import Derived.Test.YtngmpnkhdjnhoaaKCd11B
import Derived.Test.YtngmpnkhdjnhoaaCompK
import Derived.Test.YtngmpnkhdjnhoaaKInts
import Derived.Test.YtngmpnkhdjnhoaaCanon
import Derived.Test.YtngmpnkhdjnhoaaOnly2
import Derived.Test.YtngmpnkhdjnhoaaKIsD
import Derived.Lib.Hide
namespace Go.Proofs.Ytngmpnkhdjnhoaa.fnKCompressIs
open Go Go.Proofs Go.RowKit Go.Kd
set_option linter.unusedSimpArgs false
set_option linter.unusedVariables false

set_option maxRecDepth 100000 in
set_option maxHeartbeats 2000000 in
theorem full4 (f : Nat → Int) (w : World) (hb : ∀ i, i < 256 → -32768 ≤ f i ∧ f i ≤ 32767) :
    Calls Try.prog 8 #[.agg (cellsF 256 (ints .i16 f)), .int .i64 4] w fun e w' => e = .returned (.bool true) ∧ Ext w w' := by
  go_enter Try.func8, Try.ntmps8
  refine wp_region_then ?_
  refine wpList_boxA 23 (.tmp 0) _ rfl rfl rfl ?_
  simp only [Act.put, List.setIfInBounds_toArray, List.set]
  intro w1 bp hp x1 kp
  have X1 := Ext.trans (Ext.refl w) x1
  have z1 := x1.size
  have lp := kp.lt
  refine wpList_val (v := .bool false) rfl rfl ?_
  simp only [Act.put, List.setIfInBounds_toArray, List.set]
  refine wp_next ?_
  rcases forallB_or 256 (fun i => 0 ≤ f i ∧ f i < 3329) with ⟨he, hall⟩ | he
  · have hbq : ∀ i, i < 256 → 0 ≤ f i ∧ f i ≤ 3328 := fun i hi => by have := hall i hi; omega
    have HC := fun w => Lib.hid (normal_is f true w hb he)
    have HK := fun w => Lib.hid (cd4.kComp_any f (fun i => (f i % 3329 * 32 + 3329) / 6658 % 16) w hbq (fun i hi => by have := hbq i hi; rw [show f i % 3329 = f i by omega]))
    have HB := Lib.hid hb
    clear hb hbq hall he
    go_wp2_with (first | (go_at_call 24; refine (isd_4 _).mono ?_; rintro e w' ⟨rfl, rfl⟩) | (refine wpList_loadA arrK (.tmp 2) bp _ kp (size_cellsF _ _) rfl rfl rfl ?_; simp only [Act.put, List.setIfInBounds_toArray, List.set]) | (go_at_call 10; refine (HC _).out.mono ?_; rintro e w2 ⟨rfl, x2⟩; have X2 := Ext.trans X1 x2; replace kp := kp.ext x2; clear HC) | (go_at_call 26; refine (HK _).out.mono ?_; rintro e w3 ⟨bc, rfl, kc, x3⟩; have X3 := Ext.trans X2 x3; replace kp := kp.ext x3; clear HK))
    refine wp_region_canon Ext [5, 7, 9] [0, 1, 2, 3, 4, 6, 8, 5, 7, 9, 10, 11, 12, 13] mixed Ext.refl Ext.trans (by decide) (by kernel_rfl) ?_
    intro w4 x4 _
    simp only [pickO, List.getElem?_cons_succ, List.getElem?_cons_zero]
    have X4 := Ext.trans X3 x4
    have z4 := x4.size
    replace kp := kp.ext x4
    replace kc := kc.ext x4
    refine wpC_move (.tmp 6) rfl rfl rfl ?_
    simp only [Act.put, List.setIfInBounds_toArray, List.set]
    refine wpC_move (.tmp 21) rfl rfl rfl ?_
    simp only [Act.put, List.setIfInBounds_toArray, List.set]
    refine wpC_move (.tmp 5) rfl rfl rfl ?_
    simp only [Act.put, List.setIfInBounds_toArray, List.set]
    refine wpC_val (.string (strOf 128 (enc (fun i => (f i % 3329 * 32 + 3329) / 6658 % 16) 4))) rfl rfl (fun _ h => run_str Try.underlying25 Try.underlying5 Try.underlying9 (.tmp 23) bc 128 128 _ (kc.ext h) rfl rfl) ?_
    simp only [Act.put, List.setIfInBounds_toArray, List.set]
    refine wpC_loadA arrK (.tmp 2) bp _ (fun _ h => kp.ext h) (size_cellsF _ _) rfl rfl rfl rfl ?_
    simp only [Act.put, List.setIfInBounds_toArray, List.set]
    refine wpC_move (.tmp 1) rfl rfl rfl ?_
    simp only [Act.put, List.setIfInBounds_toArray, List.set]
    refine wpC_move (.tmp 1) rfl rfl rfl ?_
    simp only [Act.put, List.setIfInBounds_toArray, List.set]
    refine wpC_callW (V := fun v w => v = .agg (cellsF 256 (ints .i64 (fun i => f i % 3329))) ∧ Ext w4 w) _ _ Try.func22 (by kernel_rfl) (by kernel_rfl) rfl rfl rfl rfl ((of_any f _ HB.out).mono fun _ _ ⟨h1, h2⟩ => ⟨_, h1, rfl, h2⟩) ?_
    rintro _ w5 ⟨rfl, x5⟩
    refine ⟨x5, ?_⟩
    simp only [Act.put, List.setIfInBounds_toArray, List.set]
    have X5 := Ext.trans X4 x5
    have z5 := x5.size
    replace kp := kp.ext x5
    replace kc := kc.ext x5
    refine wpC_callW (V := fun v w => v = .agg (cellsF 256 (ints .i64 ((fun i => (f i % 3329 * 32 + 3329) / 6658 % 16)))) ∧ Ext w5 w) _ _ Try.func23 (by kernel_rfl) (by kernel_rfl) rfl rfl rfl rfl ((comp4_any (fun i => f i % 3329) _ (fun i _ => by omega)).mono fun _ _ ⟨h1, h2⟩ => ⟨_, h1, rfl, h2⟩) ?_
    rintro _ w6 ⟨rfl, x6⟩
    refine ⟨x6, ?_⟩
    simp only [Act.put, List.setIfInBounds_toArray, List.set]
    have X6 := Ext.trans X5 x6
    have z6 := x6.size
    replace kp := kp.ext x6
    replace kc := kc.ext x6
    refine wpC_callW (V := fun v w => ∃ b, v = .slice (some ⟨b, 0, none⟩) 128 128 ∧ SlB w b 128 (enc (fun i => (f i % 3329 * 32 + 3329) / 6658 % 16) 4) ∧ Ext w6 w) _ _ Try.func13 (by kernel_rfl) (by kernel_rfl) rfl rfl rfl rfl (enc4_any (fun i => (f i % 3329 * 32 + 3329) / 6658 % 16) _ (fun i _ => by omega)) ?_
    rintro _ w7 ⟨bh, rfl, kh, x7⟩
    refine ⟨x7, ?_⟩
    simp only [Act.put, List.setIfInBounds_toArray, List.set]
    have X7 := Ext.trans X6 x7
    have z7 := x7.size
    replace kp := kp.ext x7
    replace kc := kc.ext x7
    refine wpC_val (.string (strOf 128 (enc (fun i => (f i % 3329 * 32 + 3329) / 6658 % 16) 4))) rfl rfl (fun _ h => run_str Try.underlying25 Try.underlying5 Try.underlying9 (.tmp 30) bh 128 128 _ (kh.ext h) rfl rfl) ?_
    simp only [Act.put, List.setIfInBounds_toArray, List.set]
    refine wpC_val (.bool true) rfl rfl (fun _ _ => run_eqlS _ _ (.tmp 24) (.tmp 31) _ rfl rfl rfl) ?_
    simp only [Act.put, List.setIfInBounds_toArray, List.set]
    refine wpC_pick (.tmp 22) (.tmp 32) (.const (.bool false)) true rfl rfl rfl rfl ?_
    simp only [Act.put, List.setIfInBounds_toArray, List.set]
    refine wpC_assign (.tmp 33) rfl rfl rfl ?_
    simp only [Act.put, List.setIfInBounds_toArray, List.set]
    refine wpC_nil ?_
    go_wp2_with fail
    go_ret
    exact ⟨rfl, X7⟩
  · have HC := fun w => Lib.hid (normal_is f false w hb he)
    clear hb he
    go_wp2_with (first | (go_at_call 24; refine (isd_4 _).mono ?_; rintro e w' ⟨rfl, rfl⟩) | (refine wpList_loadA arrK (.tmp 2) bp _ kp (size_cellsF _ _) rfl rfl rfl ?_; simp only [Act.put, List.setIfInBounds_toArray, List.set]) | (go_at_call 10; refine (HC _).out.mono ?_; rintro e w2 ⟨rfl, x2⟩; have X2 := Ext.trans X1 x2; replace kp := kp.ext x2; clear HC))
    go_ret
    exact ⟨rfl, X2⟩
set_option maxRecDepth 100000 in
set_option maxHeartbeats 2000000 in
theorem full5 (f : Nat → Int) (w : World) (hb : ∀ i, i < 256 → -32768 ≤ f i ∧ f i ≤ 32767) :
    Calls Try.prog 8 #[.agg (cellsF 256 (ints .i16 f)), .int .i64 5] w fun e w' => e = .returned (.bool true) ∧ Ext w w' := by
  go_enter Try.func8, Try.ntmps8
  refine wp_region_then ?_
  refine wpList_boxA 23 (.tmp 0) _ rfl rfl rfl ?_
  simp only [Act.put, List.setIfInBounds_toArray, List.set]
  intro w1 bp hp x1 kp
  have X1 := Ext.trans (Ext.refl w) x1
  have z1 := x1.size
  have lp := kp.lt
  refine wpList_val (v := .bool false) rfl rfl ?_
  simp only [Act.put, List.setIfInBounds_toArray, List.set]
  refine wp_next ?_
  rcases forallB_or 256 (fun i => 0 ≤ f i ∧ f i < 3329) with ⟨he, hall⟩ | he
  · have hbq : ∀ i, i < 256 → 0 ≤ f i ∧ f i ≤ 3328 := fun i hi => by have := hall i hi; omega
    have HC := fun w => Lib.hid (normal_is f true w hb he)
    have HK := fun w => Lib.hid (cd5.kComp_any f (fun i => (f i % 3329 * 64 + 3329) / 6658 % 32) w hbq (fun i hi => by have := hbq i hi; rw [show f i % 3329 = f i by omega]))
    have HB := Lib.hid hb
    clear hb hbq hall he
    go_wp2_with (first | (go_at_call 24; refine (isd_5 _).mono ?_; rintro e w' ⟨rfl, rfl⟩) | (refine wpList_loadA arrK (.tmp 2) bp _ kp (size_cellsF _ _) rfl rfl rfl ?_; simp only [Act.put, List.setIfInBounds_toArray, List.set]) | (go_at_call 10; refine (HC _).out.mono ?_; rintro e w2 ⟨rfl, x2⟩; have X2 := Ext.trans X1 x2; replace kp := kp.ext x2; clear HC) | (go_at_call 26; refine (HK _).out.mono ?_; rintro e w3 ⟨bc, rfl, kc, x3⟩; have X3 := Ext.trans X2 x3; replace kp := kp.ext x3; clear HK))
    refine wp_region_canon Ext [5, 7, 9] [0, 1, 2, 3, 4, 6, 8, 5, 7, 9, 10, 11, 12, 13] mixed Ext.refl Ext.trans (by decide) (by kernel_rfl) ?_
    intro w4 x4 _
    simp only [pickO, List.getElem?_cons_succ, List.getElem?_cons_zero]
    have X4 := Ext.trans X3 x4
    have z4 := x4.size
    replace kp := kp.ext x4
    replace kc := kc.ext x4
    refine wpC_move (.tmp 6) rfl rfl rfl ?_
    simp only [Act.put, List.setIfInBounds_toArray, List.set]
    refine wpC_move (.tmp 21) rfl rfl rfl ?_
    simp only [Act.put, List.setIfInBounds_toArray, List.set]
    refine wpC_move (.tmp 5) rfl rfl rfl ?_
    simp only [Act.put, List.setIfInBounds_toArray, List.set]
    refine wpC_val (.string (strOf 160 (enc (fun i => (f i % 3329 * 64 + 3329) / 6658 % 32) 5))) rfl rfl (fun _ h => run_str Try.underlying25 Try.underlying5 Try.underlying9 (.tmp 23) bc 160 160 _ (kc.ext h) rfl rfl) ?_
    simp only [Act.put, List.setIfInBounds_toArray, List.set]
    refine wpC_loadA arrK (.tmp 2) bp _ (fun _ h => kp.ext h) (size_cellsF _ _) rfl rfl rfl rfl ?_
    simp only [Act.put, List.setIfInBounds_toArray, List.set]
    refine wpC_move (.tmp 1) rfl rfl rfl ?_
    simp only [Act.put, List.setIfInBounds_toArray, List.set]
    refine wpC_move (.tmp 1) rfl rfl rfl ?_
    simp only [Act.put, List.setIfInBounds_toArray, List.set]
    refine wpC_callW (V := fun v w => v = .agg (cellsF 256 (ints .i64 (fun i => f i % 3329))) ∧ Ext w4 w) _ _ Try.func22 (by kernel_rfl) (by kernel_rfl) rfl rfl rfl rfl ((of_any f _ HB.out).mono fun _ _ ⟨h1, h2⟩ => ⟨_, h1, rfl, h2⟩) ?_
    rintro _ w5 ⟨rfl, x5⟩
    refine ⟨x5, ?_⟩
    simp only [Act.put, List.setIfInBounds_toArray, List.set]
    have X5 := Ext.trans X4 x5
    have z5 := x5.size
    replace kp := kp.ext x5
    replace kc := kc.ext x5
    refine wpC_callW (V := fun v w => v = .agg (cellsF 256 (ints .i64 ((fun i => (f i % 3329 * 64 + 3329) / 6658 % 32)))) ∧ Ext w5 w) _ _ Try.func23 (by kernel_rfl) (by kernel_rfl) rfl rfl rfl rfl ((comp5_any (fun i => f i % 3329) _ (fun i _ => by omega)).mono fun _ _ ⟨h1, h2⟩ => ⟨_, h1, rfl, h2⟩) ?_
    rintro _ w6 ⟨rfl, x6⟩
    refine ⟨x6, ?_⟩
    simp only [Act.put, List.setIfInBounds_toArray, List.set]
    have X6 := Ext.trans X5 x6
    have z6 := x6.size
    replace kp := kp.ext x6
    replace kc := kc.ext x6
    refine wpC_callW (V := fun v w => ∃ b, v = .slice (some ⟨b, 0, none⟩) 160 160 ∧ SlB w b 160 (enc (fun i => (f i % 3329 * 64 + 3329) / 6658 % 32) 5) ∧ Ext w6 w) _ _ Try.func13 (by kernel_rfl) (by kernel_rfl) rfl rfl rfl rfl (enc5_any (fun i => (f i % 3329 * 64 + 3329) / 6658 % 32) _ (fun i _ => by omega)) ?_
    rintro _ w7 ⟨bh, rfl, kh, x7⟩
    refine ⟨x7, ?_⟩
    simp only [Act.put, List.setIfInBounds_toArray, List.set]
    have X7 := Ext.trans X6 x7
    have z7 := x7.size
    replace kp := kp.ext x7
    replace kc := kc.ext x7
    refine wpC_val (.string (strOf 160 (enc (fun i => (f i % 3329 * 64 + 3329) / 6658 % 32) 5))) rfl rfl (fun _ h => run_str Try.underlying25 Try.underlying5 Try.underlying9 (.tmp 30) bh 160 160 _ (kh.ext h) rfl rfl) ?_
    simp only [Act.put, List.setIfInBounds_toArray, List.set]
    refine wpC_val (.bool true) rfl rfl (fun _ _ => run_eqlS _ _ (.tmp 24) (.tmp 31) _ rfl rfl rfl) ?_
    simp only [Act.put, List.setIfInBounds_toArray, List.set]
    refine wpC_pick (.tmp 22) (.tmp 32) (.const (.bool false)) true rfl rfl rfl rfl ?_
    simp only [Act.put, List.setIfInBounds_toArray, List.set]
    refine wpC_assign (.tmp 33) rfl rfl rfl ?_
    simp only [Act.put, List.setIfInBounds_toArray, List.set]
    refine wpC_nil ?_
    go_wp2_with fail
    go_ret
    exact ⟨rfl, X7⟩
  · have HC := fun w => Lib.hid (normal_is f false w hb he)
    clear hb he
    go_wp2_with (first | (go_at_call 24; refine (isd_5 _).mono ?_; rintro e w' ⟨rfl, rfl⟩) | (refine wpList_loadA arrK (.tmp 2) bp _ kp (size_cellsF _ _) rfl rfl rfl ?_; simp only [Act.put, List.setIfInBounds_toArray, List.set]) | (go_at_call 10; refine (HC _).out.mono ?_; rintro e w2 ⟨rfl, x2⟩; have X2 := Ext.trans X1 x2; replace kp := kp.ext x2; clear HC))
    go_ret
    exact ⟨rfl, X2⟩
set_option maxRecDepth 100000 in
set_option maxHeartbeats 2000000 in
theorem full10 (f : Nat → Int) (w : World) (hb : ∀ i, i < 256 → -32768 ≤ f i ∧ f i ≤ 32767) :
    Calls Try.prog 8 #[.agg (cellsF 256 (ints .i16 f)), .int .i64 10] w fun e w' => e = .returned (.bool true) ∧ Ext w w' := by
  go_enter Try.func8, Try.ntmps8
  refine wp_region_then ?_
  refine wpList_boxA 23 (.tmp 0) _ rfl rfl rfl ?_
  simp only [Act.put, List.setIfInBounds_toArray, List.set]
  intro w1 bp hp x1 kp
  have X1 := Ext.trans (Ext.refl w) x1
  have z1 := x1.size
  have lp := kp.lt
  refine wpList_val (v := .bool false) rfl rfl ?_
  simp only [Act.put, List.setIfInBounds_toArray, List.set]
  refine wp_next ?_
  rcases forallB_or 256 (fun i => 0 ≤ f i ∧ f i < 3329) with ⟨he, hall⟩ | he
  · have hbq : ∀ i, i < 256 → 0 ≤ f i ∧ f i ≤ 3328 := fun i hi => by have := hall i hi; omega
    have HC := fun w => Lib.hid (normal_is f true w hb he)
    have HK := fun w => Lib.hid (cd10.kComp_any f (fun i => (f i % 3329 * 2048 + 3329) / 6658 % 1024) w hbq (fun i hi => by have := hbq i hi; rw [show f i % 3329 = f i by omega]))
    have HB := Lib.hid hb
    clear hb hbq hall he
    go_wp2_with (first | (go_at_call 24; refine (isd_10 _).mono ?_; rintro e w' ⟨rfl, rfl⟩) | (refine wpList_loadA arrK (.tmp 2) bp _ kp (size_cellsF _ _) rfl rfl rfl ?_; simp only [Act.put, List.setIfInBounds_toArray, List.set]) | (go_at_call 10; refine (HC _).out.mono ?_; rintro e w2 ⟨rfl, x2⟩; have X2 := Ext.trans X1 x2; replace kp := kp.ext x2; clear HC) | (go_at_call 26; refine (HK _).out.mono ?_; rintro e w3 ⟨bc, rfl, kc, x3⟩; have X3 := Ext.trans X2 x3; replace kp := kp.ext x3; clear HK))
    refine wp_region_canon Ext [5, 7, 9] [0, 1, 2, 3, 4, 6, 8, 5, 7, 9, 10, 11, 12, 13] mixed Ext.refl Ext.trans (by decide) (by kernel_rfl) ?_
    intro w4 x4 _
    simp only [pickO, List.getElem?_cons_succ, List.getElem?_cons_zero]
    have X4 := Ext.trans X3 x4
    have z4 := x4.size
    replace kp := kp.ext x4
    replace kc := kc.ext x4
    refine wpC_move (.tmp 6) rfl rfl rfl ?_
    simp only [Act.put, List.setIfInBounds_toArray, List.set]
    refine wpC_move (.tmp 21) rfl rfl rfl ?_
    simp only [Act.put, List.setIfInBounds_toArray, List.set]
    refine wpC_move (.tmp 5) rfl rfl rfl ?_
    simp only [Act.put, List.setIfInBounds_toArray, List.set]
    refine wpC_val (.string (strOf 320 (enc (fun i => (f i % 3329 * 2048 + 3329) / 6658 % 1024) 10))) rfl rfl (fun _ h => run_str Try.underlying25 Try.underlying5 Try.underlying9 (.tmp 23) bc 320 320 _ (kc.ext h) rfl rfl) ?_
    simp only [Act.put, List.setIfInBounds_toArray, List.set]
    refine wpC_loadA arrK (.tmp 2) bp _ (fun _ h => kp.ext h) (size_cellsF _ _) rfl rfl rfl rfl ?_
    simp only [Act.put, List.setIfInBounds_toArray, List.set]
    refine wpC_move (.tmp 1) rfl rfl rfl ?_
    simp only [Act.put, List.setIfInBounds_toArray, List.set]
    refine wpC_move (.tmp 1) rfl rfl rfl ?_
    simp only [Act.put, List.setIfInBounds_toArray, List.set]
    refine wpC_callW (V := fun v w => v = .agg (cellsF 256 (ints .i64 (fun i => f i % 3329))) ∧ Ext w4 w) _ _ Try.func22 (by kernel_rfl) (by kernel_rfl) rfl rfl rfl rfl ((of_any f _ HB.out).mono fun _ _ ⟨h1, h2⟩ => ⟨_, h1, rfl, h2⟩) ?_
    rintro _ w5 ⟨rfl, x5⟩
    refine ⟨x5, ?_⟩
    simp only [Act.put, List.setIfInBounds_toArray, List.set]
    have X5 := Ext.trans X4 x5
    have z5 := x5.size
    replace kp := kp.ext x5
    replace kc := kc.ext x5
    refine wpC_callW (V := fun v w => v = .agg (cellsF 256 (ints .i64 ((fun i => (f i % 3329 * 2048 + 3329) / 6658 % 1024)))) ∧ Ext w5 w) _ _ Try.func23 (by kernel_rfl) (by kernel_rfl) rfl rfl rfl rfl ((comp10_any (fun i => f i % 3329) _ (fun i _ => by omega)).mono fun _ _ ⟨h1, h2⟩ => ⟨_, h1, rfl, h2⟩) ?_
    rintro _ w6 ⟨rfl, x6⟩
    refine ⟨x6, ?_⟩
    simp only [Act.put, List.setIfInBounds_toArray, List.set]
    have X6 := Ext.trans X5 x6
    have z6 := x6.size
    replace kp := kp.ext x6
    replace kc := kc.ext x6
    refine wpC_callW (V := fun v w => ∃ b, v = .slice (some ⟨b, 0, none⟩) 320 320 ∧ SlB w b 320 (enc (fun i => (f i % 3329 * 2048 + 3329) / 6658 % 1024) 10) ∧ Ext w6 w) _ _ Try.func13 (by kernel_rfl) (by kernel_rfl) rfl rfl rfl rfl (enc10_any (fun i => (f i % 3329 * 2048 + 3329) / 6658 % 1024) _ (fun i _ => by omega)) ?_
    rintro _ w7 ⟨bh, rfl, kh, x7⟩
    refine ⟨x7, ?_⟩
    simp only [Act.put, List.setIfInBounds_toArray, List.set]
    have X7 := Ext.trans X6 x7
    have z7 := x7.size
    replace kp := kp.ext x7
    replace kc := kc.ext x7
    refine wpC_val (.string (strOf 320 (enc (fun i => (f i % 3329 * 2048 + 3329) / 6658 % 1024) 10))) rfl rfl (fun _ h => run_str Try.underlying25 Try.underlying5 Try.underlying9 (.tmp 30) bh 320 320 _ (kh.ext h) rfl rfl) ?_
    simp only [Act.put, List.setIfInBounds_toArray, List.set]
    refine wpC_val (.bool true) rfl rfl (fun _ _ => run_eqlS _ _ (.tmp 24) (.tmp 31) _ rfl rfl rfl) ?_
    simp only [Act.put, List.setIfInBounds_toArray, List.set]
    refine wpC_pick (.tmp 22) (.tmp 32) (.const (.bool false)) true rfl rfl rfl rfl ?_
    simp only [Act.put, List.setIfInBounds_toArray, List.set]
    refine wpC_assign (.tmp 33) rfl rfl rfl ?_
    simp only [Act.put, List.setIfInBounds_toArray, List.set]
    refine wpC_nil ?_
    go_wp2_with fail
    go_ret
    exact ⟨rfl, X7⟩
  · have HC := fun w => Lib.hid (normal_is f false w hb he)
    clear hb he
    go_wp2_with (first | (go_at_call 24; refine (isd_10 _).mono ?_; rintro e w' ⟨rfl, rfl⟩) | (refine wpList_loadA arrK (.tmp 2) bp _ kp (size_cellsF _ _) rfl rfl rfl ?_; simp only [Act.put, List.setIfInBounds_toArray, List.set]) | (go_at_call 10; refine (HC _).out.mono ?_; rintro e w2 ⟨rfl, x2⟩; have X2 := Ext.trans X1 x2; replace kp := kp.ext x2; clear HC))
    go_ret
    exact ⟨rfl, X2⟩
set_option maxRecDepth 100000 in
set_option maxHeartbeats 2000000 in
theorem full11 (f : Nat → Int) (w : World) (hb : ∀ i, i < 256 → -32768 ≤ f i ∧ f i ≤ 32767) :
    Calls Try.prog 8 #[.agg (cellsF 256 (ints .i16 f)), .int .i64 11] w fun e w' => e = .returned (.bool true) ∧ Ext w w' := by
  go_enter Try.func8, Try.ntmps8
  refine wp_region_then ?_
  refine wpList_boxA 23 (.tmp 0) _ rfl rfl rfl ?_
  simp only [Act.put, List.setIfInBounds_toArray, List.set]
  intro w1 bp hp x1 kp
  have X1 := Ext.trans (Ext.refl w) x1
  have z1 := x1.size
  have lp := kp.lt
  refine wpList_val (v := .bool false) rfl rfl ?_
  simp only [Act.put, List.setIfInBounds_toArray, List.set]
  refine wp_next ?_
  rcases forallB_or 256 (fun i => 0 ≤ f i ∧ f i < 3329) with ⟨he, hall⟩ | he
  · have hbq : ∀ i, i < 256 → 0 ≤ f i ∧ f i ≤ 3328 := fun i hi => by have := hall i hi; omega
    have HC := fun w => Lib.hid (normal_is f true w hb he)
    have HK := fun w => Lib.hid (cd11.kComp_any f (fun i => (f i % 3329 * 4096 + 3329) / 6658 % 2048) w hbq (fun i hi => by have := hbq i hi; rw [show f i % 3329 = f i by omega]))
    have HB := Lib.hid hb
    clear hb hbq hall he
    go_wp2_with (first | (go_at_call 24; refine (isd_11 _).mono ?_; rintro e w' ⟨rfl, rfl⟩) | (refine wpList_loadA arrK (.tmp 2) bp _ kp (size_cellsF _ _) rfl rfl rfl ?_; simp only [Act.put, List.setIfInBounds_toArray, List.set]) | (go_at_call 10; refine (HC _).out.mono ?_; rintro e w2 ⟨rfl, x2⟩; have X2 := Ext.trans X1 x2; replace kp := kp.ext x2; clear HC) | (go_at_call 26; refine (HK _).out.mono ?_; rintro e w3 ⟨bc, rfl, kc, x3⟩; have X3 := Ext.trans X2 x3; replace kp := kp.ext x3; clear HK))
    refine wp_region_canon Ext [5, 7, 9] [0, 1, 2, 3, 4, 6, 8, 5, 7, 9, 10, 11, 12, 13] mixed Ext.refl Ext.trans (by decide) (by kernel_rfl) ?_
    intro w4 x4 _
    simp only [pickO, List.getElem?_cons_succ, List.getElem?_cons_zero]
    have X4 := Ext.trans X3 x4
    have z4 := x4.size
    replace kp := kp.ext x4
    replace kc := kc.ext x4
    refine wpC_move (.tmp 6) rfl rfl rfl ?_
    simp only [Act.put, List.setIfInBounds_toArray, List.set]
    refine wpC_move (.tmp 21) rfl rfl rfl ?_
    simp only [Act.put, List.setIfInBounds_toArray, List.set]
    refine wpC_move (.tmp 5) rfl rfl rfl ?_
    simp only [Act.put, List.setIfInBounds_toArray, List.set]
    refine wpC_val (.string (strOf 352 (enc (fun i => (f i % 3329 * 4096 + 3329) / 6658 % 2048) 11))) rfl rfl (fun _ h => run_str Try.underlying25 Try.underlying5 Try.underlying9 (.tmp 23) bc 352 352 _ (kc.ext h) rfl rfl) ?_
    simp only [Act.put, List.setIfInBounds_toArray, List.set]
    refine wpC_loadA arrK (.tmp 2) bp _ (fun _ h => kp.ext h) (size_cellsF _ _) rfl rfl rfl rfl ?_
    simp only [Act.put, List.setIfInBounds_toArray, List.set]
    refine wpC_move (.tmp 1) rfl rfl rfl ?_
    simp only [Act.put, List.setIfInBounds_toArray, List.set]
    refine wpC_move (.tmp 1) rfl rfl rfl ?_
    simp only [Act.put, List.setIfInBounds_toArray, List.set]
    refine wpC_callW (V := fun v w => v = .agg (cellsF 256 (ints .i64 (fun i => f i % 3329))) ∧ Ext w4 w) _ _ Try.func22 (by kernel_rfl) (by kernel_rfl) rfl rfl rfl rfl ((of_any f _ HB.out).mono fun _ _ ⟨h1, h2⟩ => ⟨_, h1, rfl, h2⟩) ?_
    rintro _ w5 ⟨rfl, x5⟩
    refine ⟨x5, ?_⟩
    simp only [Act.put, List.setIfInBounds_toArray, List.set]
    have X5 := Ext.trans X4 x5
    have z5 := x5.size
    replace kp := kp.ext x5
    replace kc := kc.ext x5
    refine wpC_callW (V := fun v w => v = .agg (cellsF 256 (ints .i64 ((fun i => (f i % 3329 * 4096 + 3329) / 6658 % 2048)))) ∧ Ext w5 w) _ _ Try.func23 (by kernel_rfl) (by kernel_rfl) rfl rfl rfl rfl ((comp11_any (fun i => f i % 3329) _ (fun i _ => by omega)).mono fun _ _ ⟨h1, h2⟩ => ⟨_, h1, rfl, h2⟩) ?_
    rintro _ w6 ⟨rfl, x6⟩
    refine ⟨x6, ?_⟩
    simp only [Act.put, List.setIfInBounds_toArray, List.set]
    have X6 := Ext.trans X5 x6
    have z6 := x6.size
    replace kp := kp.ext x6
    replace kc := kc.ext x6
    refine wpC_callW (V := fun v w => ∃ b, v = .slice (some ⟨b, 0, none⟩) 352 352 ∧ SlB w b 352 (enc (fun i => (f i % 3329 * 4096 + 3329) / 6658 % 2048) 11) ∧ Ext w6 w) _ _ Try.func13 (by kernel_rfl) (by kernel_rfl) rfl rfl rfl rfl (enc11_any (fun i => (f i % 3329 * 4096 + 3329) / 6658 % 2048) _ (fun i _ => by omega)) ?_
    rintro _ w7 ⟨bh, rfl, kh, x7⟩
    refine ⟨x7, ?_⟩
    simp only [Act.put, List.setIfInBounds_toArray, List.set]
    have X7 := Ext.trans X6 x7
    have z7 := x7.size
    replace kp := kp.ext x7
    replace kc := kc.ext x7
    refine wpC_val (.string (strOf 352 (enc (fun i => (f i % 3329 * 4096 + 3329) / 6658 % 2048) 11))) rfl rfl (fun _ h => run_str Try.underlying25 Try.underlying5 Try.underlying9 (.tmp 30) bh 352 352 _ (kh.ext h) rfl rfl) ?_
    simp only [Act.put, List.setIfInBounds_toArray, List.set]
    refine wpC_val (.bool true) rfl rfl (fun _ _ => run_eqlS _ _ (.tmp 24) (.tmp 31) _ rfl rfl rfl) ?_
    simp only [Act.put, List.setIfInBounds_toArray, List.set]
    refine wpC_pick (.tmp 22) (.tmp 32) (.const (.bool false)) true rfl rfl rfl rfl ?_
    simp only [Act.put, List.setIfInBounds_toArray, List.set]
    refine wpC_assign (.tmp 33) rfl rfl rfl ?_
    simp only [Act.put, List.setIfInBounds_toArray, List.set]
    refine wpC_nil ?_
    go_wp2_with fail
    go_ret
    exact ⟨rfl, X7⟩
  · have HC := fun w => Lib.hid (normal_is f false w hb he)
    clear hb he
    go_wp2_with (first | (go_at_call 24; refine (isd_11 _).mono ?_; rintro e w' ⟨rfl, rfl⟩) | (refine wpList_loadA arrK (.tmp 2) bp _ kp (size_cellsF _ _) rfl rfl rfl ?_; simp only [Act.put, List.setIfInBounds_toArray, List.set]) | (go_at_call 10; refine (HC _).out.mono ?_; rintro e w2 ⟨rfl, x2⟩; have X2 := Ext.trans X1 x2; replace kp := kp.ext x2; clear HC))
    go_ret
    exact ⟨rfl, X2⟩
set_option maxRecDepth 100000 in
theorem walk (f : Nat → Int) (hf : ∀ i, i < 256 → (Lit.int .i16 (f i)).wf = true) (d : Int) (hd : (Lit.int .i64 d).wf = true) (w : World) :
    Calls Try.prog 8 #[.agg (cellsF 256 (ints .i16 f)), .int .i64 d] w fun e w' => e = .returned (.bool true) ∧ Ext w w' := by
  have hb : ∀ i, i < 256 → -32768 ≤ f i ∧ f i ≤ 32767 := fun i hi => bounds_i16 (hf i hi)
  clear hf hd
  by_cases h4 : d = 4
  · subst h4
    exact full4 f w hb
  by_cases h5 : d = 5
  · subst h5
    exact full5 f w hb
  by_cases h10 : d = 10
  · subst h10
    exact full10 f w hb
  by_cases h11 : d = 11
  · subst h11
    exact full11 f w hb
  have HI := fun w => Lib.hid (isd_no d h4 h5 h10 h11 w)
  clear hb h4 h5 h10 h11
  go_enter Try.func8, Try.ntmps8
  refine wp_region_then ?_
  refine wpList_boxA 23 (.tmp 0) _ rfl rfl rfl ?_
  simp only [Act.put, List.setIfInBounds_toArray, List.set]
  intro w1 bp hp x1 kp
  have X1 := Ext.trans (Ext.refl w) x1
  have z1 := x1.size
  have lp := kp.lt
  refine wpList_val (v := .bool false) rfl rfl ?_
  simp only [Act.put, List.setIfInBounds_toArray, List.set]
  refine wp_next ?_
  go_wp2_with (go_at_call 24; refine (HI _).out.mono ?_; rintro e w' ⟨rfl, rfl⟩)
  go_ret
  exact ⟨rfl, X1⟩
end Go.Proofs.Ytngmpnkhdjnhoaa.fnKCompressIs
