/- laws.FnKMessageIs returns true at every slice of bytes and polynomial. -/
import Derived.Test.YtngmpnkhdjnhoaaKMsgB
import Derived.Test.YtngmpnkhdjnhoaaDecK
import Derived.Test.YtngmpnkhdjnhoaaCompK
import Derived.Test.YtngmpnkhdjnhoaaSlice
import Derived.Test.YtngmpnkhdjnhoaaStrO
import Derived.Test.YtngmpnkhdjnhoaaCanon
import Derived.Test.YtngmpnkhdjnhoaaOnly2
import Derived.Lib.Hide
namespace Go.Proofs.Ytngmpnkhdjnhoaa.fnKMessageIs
open Go Go.Proofs Go.RowKit Go.Kd
set_option linter.unusedSimpArgs false
set_option linter.unusedVariables false

theorem back (f : Nat → Int) (hf : ∀ i, i < 32 → 0 ≤ f i ∧ f i ≤ 255) : ∀ t, t < 32 → enc (fun i => (dmF f i * 4 + 3329) / 6658 % 2) 1 t = f t := by
  intro t ht
  have h := hf t ht
  have e : ∀ s, s < 8 → bitL (fun i => (dmF f i * 4 + 3329) / 6658 % 2) 1 (8 * t + s) = f t / 2 ^ s % 2 := fun s hs => by
    unfold bitL
    show (dmF f ((8 * t + s) / 1) * 4 + 3329) / 6658 % 2 / 2 ^ ((8 * t + s) % 1) % 2 = _
    rw [Nat.div_one, Nat.mod_one, dmF_at f t s hs]
    have h2 : f t / 2 ^ s % 2 = 0 ∨ f t / 2 ^ s % 2 = 1 := by omega
    rcases h2 with h2 | h2 <;> rw [h2] <;> decide
  unfold enc
  simp only [octet]
  rw [e 0 (by omega), e 1 (by omega), e 2 (by omega), e 3 (by omega), e 4 (by omega), e 5 (by omega), e 6 (by omega), e 7 (by omega)]
  generalize f t = x at *
  omega
theorem same (f : Nat → Int) : ∀ i, i < 256 → dmF f i = (6658 * decN f 1 i + 2) / 4 := by
  intro i _
  unfold decN dmF
  simp only [decS]
  rw [show (i * 1 + 0) / 8 = i / 8 by omega, show (i * 1 + 0) % 8 = i % 8 by omega]
  have h2 : f (i / 8) / 2 ^ (i % 8) % 2 = 0 ∨ f (i / 8) / 2 ^ (i % 8) % 2 = 1 := by omega
  rcases h2 with h2 | h2 <;> rw [h2] <;> decide
theorem dmF_bd (f : Nat → Int) (i : Nat) : 0 ≤ dmF f i ∧ dmF f i ≤ 1665 := by unfold dmF; omega
theorem decN1_bd (f : Nat → Int) (i : Nat) : 0 ≤ decN f 1 i ∧ decN f 1 i ≤ 1 := by
  have h := decS_bd f 1 i 1
  unfold decN
  omega
set_option maxRecDepth 100000 in
set_option maxHeartbeats 2000000 in
theorem full (b off c : Nat) (g f : Nat → Int) (w : World) (hs : SlO w b off 32 g) (hg : ∀ i, i < 32 → 0 ≤ g i ∧ g i ≤ 255) (hb : ∀ i, i < 256 → -32768 ≤ f i ∧ f i ≤ 32767) :
    Calls Try.prog 6 #[.slice (some ⟨b, off, none⟩) 32 c, .agg (cellsF 256 (ints .i16 f))] w fun e w' => e = .returned (.bool true) ∧ Ext w w' := by
  go_enter Try.func6, Try.ntmps6
  refine wp_region_then ?_
  refine wpList_boxA 23 (.tmp 1) _ rfl rfl rfl ?_
  simp only [Act.put, List.setIfInBounds_toArray, List.set]
  intro w1 bp hp x1 kp
  have X1 := Ext.trans (Ext.refl w) x1
  have z1 := x1.size
  have lp := kp.lt
  refine wpList_val (v := .bool false) rfl rfl ?_
  simp only [Act.put, List.setIfInBounds_toArray, List.set]
  refine wp_next ?_
  rcases forallB_or 256 (fun i => 0 ≤ f i ∧ f i < 3329) with ⟨he, hall⟩ | he
  · have hbq : ∀ i, i < 256 → 0 ≤ f i ∧ f i ≤ 3328 := fun i hi => by have := hall i hi; omega
    have HC := fun w => Lib.hid (normal_is f true w hb he)
    have HU := fun w1 (h : Ext w w1) => Lib.hid (kDecMsg_any b off c g (dmF g) w1 (hs.ext h) hg (fun r j _ hj => dmF_at g r j hj))
    have HB := Lib.hid hb
    have HS := Lib.hid hs
    have HG := Lib.hid hg
    have HQ := Lib.hid hbq
    clear hb hbq hall he hs hg
    go_wp2_with (first | (refine wpList_loadA arrK (.tmp 3) bp _ kp (size_cellsF _ _) rfl rfl rfl ?_; simp only [Act.put, List.setIfInBounds_toArray, List.set]) | (go_at_call 10; refine (HC _).out.mono ?_; rintro e w2 ⟨rfl, x2⟩; have X2 := Ext.trans X1 x2; replace kp := kp.ext x2; clear HC) | (go_at_call 19; refine (HU _ X2).out.mono ?_; rintro e w3 ⟨rfl, x3⟩; have X3 := Ext.trans X2 x3; replace kp := kp.ext x3; have lp3 := kp.lt; clear HU) | (refine wpList_allocA 23 _ _ zeroK rfl rfl ?_; simp only [Act.put, List.setIfInBounds_toArray, List.set]; intro w4 bg hg4 x4 kg; have X4 := Ext.trans X3 x4; replace kp := kp.ext x4; have zz := X3.size) | (refine wpList_storeA arrK (.tmp 5) (.tmp 21) bg _ _ kg (size_cellsF _ _) (size_cellsF _ _) (one_cellsF _ _ _) rfl rfl rfl rfl ?_; simp only [Act.put]; clear kg; intro w5 o5 kg; have X5 := o5.ext X4 (by omega); replace kp := o5.blk (by omega) kp))
    refine wp_region_canon Ext [3, 5, 6, 11, 19, 22, 23, 24] [0, 1, 2, 4, 3, 5, 6, 7, 8, 9, 10, 13, 14, 11, 12, 15, 16, 17, 18, 21, 19, 20, 22, 23, 24, 25, 26, 27, 28] mixed Ext.refl Ext.trans (by decide) (by kernel_rfl) ?_
    intro w6 x6 _
    simp only [pickO, List.getElem?_cons_succ, List.getElem?_cons_zero]
    have X6 := Ext.trans X5 x6
    have z6 := x6.size
    replace kp := kp.ext x6
    replace kg := kg.ext x6
    refine wpC_move (.tmp 6) rfl rfl rfl ?_
    simp only [Act.put, List.setIfInBounds_toArray, List.set]
    refine wpC_move (.tmp 23) rfl rfl rfl ?_
    simp only [Act.put, List.setIfInBounds_toArray, List.set]
    refine wpC_loadA arrK (.tmp 5) bg _ (fun _ h => kg.ext h) (size_cellsF _ _) rfl rfl rfl rfl ?_
    simp only [Act.put, List.setIfInBounds_toArray, List.set]
    refine wpC_move (.tmp 0) rfl rfl rfl ?_
    simp only [Act.put, List.setIfInBounds_toArray, List.set]
    refine wpC_callW (V := fun v w => v = .agg (cellsF 256 (ints .i64 (dmF g))) ∧ Ext w6 w) _ _ Try.func14 (by kernel_rfl) (by kernel_rfl) rfl rfl rfl rfl ((lints_any (dmF g) _ (fun i _ => by have := dmF_bd g i; omega)).mono fun _ _ ⟨h1, h2⟩ => ⟨_, h1, rfl, h2⟩) ?_
    rintro _ w7 ⟨rfl, x7⟩
    refine ⟨x7, ?_⟩
    simp only [Act.put, List.setIfInBounds_toArray, List.set]
    have X7 := Ext.trans X6 x7
    have z7 := x7.size
    replace kp := kp.ext x7
    replace kg := kg.ext x7
    refine wpC_callW (V := fun v w => v = .agg (cellsF 256 (ints .i64 (decN g 1))) ∧ Ext w7 w) _ _ Try.func17 (by kernel_rfl) (by kernel_rfl) rfl rfl rfl rfl ((dec1_any b off c g _ (HS.out.ext X7) HG.out).mono fun _ _ ⟨h1, h2⟩ => ⟨_, h1, rfl, h2⟩) ?_
    rintro _ w8 ⟨rfl, x8⟩
    refine ⟨x8, ?_⟩
    simp only [Act.put, List.setIfInBounds_toArray, List.set]
    have X8 := Ext.trans X7 x8
    have z8 := x8.size
    replace kp := kp.ext x8
    replace kg := kg.ext x8
    refine wpC_callW (V := fun v w => v = .agg (cellsF 256 (ints .i64 (fun i => (6658 * decN g 1 i + 2) / 4))) ∧ Ext w8 w) _ _ Try.func20 (by kernel_rfl) (by kernel_rfl) rfl rfl rfl rfl ((decomp1_any (decN g 1) _ (fun i _ => decN1_bd g i)).mono fun _ _ ⟨h1, h2⟩ => ⟨_, h1, rfl, h2⟩) ?_
    rintro _ w9 ⟨rfl, x9⟩
    refine ⟨x9, ?_⟩
    simp only [Act.put, List.setIfInBounds_toArray, List.set]
    have X9 := Ext.trans X8 x9
    have z9 := x9.size
    replace kp := kp.ext x9
    replace kg := kg.ext x9
    refine wpC_val (.bool true) rfl rfl (fun _ _ => (run_eql intI (.tmp 26) (.tmp 29) _ (dmF g) (fun i => (6658 * decN g 1 i + 2) / 4) rfl rfl rfl).trans (by rw [eq_dec (same g)])) ?_
    simp only [Act.put, List.setIfInBounds_toArray, List.set]
    refine wpC_pick (.tmp 24) (.tmp 30) (.const (.bool false)) true rfl rfl rfl rfl ?_
    simp only [Act.put, List.setIfInBounds_toArray, List.set]
    refine wpC_move (.tmp 31) rfl rfl rfl ?_
    simp only [Act.put, List.setIfInBounds_toArray, List.set]
    refine wpC_loadA arrK (.tmp 5) bg _ (fun _ h => kg.ext h) (size_cellsF _ _) rfl rfl rfl rfl ?_
    simp only [Act.put, List.setIfInBounds_toArray, List.set]
    refine wpC_move (.tmp 0) rfl rfl rfl ?_
    simp only [Act.put, List.setIfInBounds_toArray, List.set]
    refine wpC_val (.string (strOf 32 g)) rfl rfl (fun _ h => run_strO Try.underlying25 Try.underlying5 Try.underlying9 (.tmp 36) b off 32 c _ (HS.out.ext (Ext.trans X9 h)) rfl rfl) ?_
    simp only [Act.put, List.setIfInBounds_toArray, List.set]
    refine wpC_callW (V := fun v w => ∃ b, v = .slice (some ⟨b, 0, none⟩) 32 32 ∧ SlB w b 32 (enc (fun i => (dmF g i * 4 + 3329) / 6658 % 2) 1) ∧ Ext w9 w) _ _ Try.func21 (by kernel_rfl) (by kernel_rfl) rfl rfl rfl rfl (kCompMsg_any (dmF g) (fun i => (dmF g i * 4 + 3329) / 6658 % 2) _ (fun i _ => by have := dmF_bd g i; omega) (fun _ _ => rfl)) ?_
    rintro _ w10 ⟨bc, rfl, kc, x10⟩
    refine ⟨x10, ?_⟩
    simp only [Act.put, List.setIfInBounds_toArray, List.set]
    have X10 := Ext.trans X9 x10
    have z10 := x10.size
    replace kp := kp.ext x10
    replace kg := kg.ext x10
    refine wpC_val (.string (strOf 32 (enc (fun i => (dmF g i * 4 + 3329) / 6658 % 2) 1))) rfl rfl (fun _ h => run_str Try.underlying25 Try.underlying5 Try.underlying9 (.tmp 34) bc 32 32 _ (kc.ext h) rfl rfl) ?_
    simp only [Act.put, List.setIfInBounds_toArray, List.set]
    rw [strOf_congr (n := 32) (f := enc (fun i => (dmF g i * 4 + 3329) / 6658 % 2) 1) (g := g) (back g HG.out)]
    refine wpC_val (.bool true) rfl rfl (fun _ _ => run_eqlS _ _ (.tmp 35) (.tmp 37) _ rfl rfl rfl) ?_
    simp only [Act.put, List.setIfInBounds_toArray, List.set]
    refine wpC_pick (.tmp 32) (.tmp 38) (.const (.bool false)) true rfl rfl rfl rfl ?_
    simp only [Act.put, List.setIfInBounds_toArray, List.set]
    refine wpC_move (.tmp 39) rfl rfl rfl ?_
    simp only [Act.put, List.setIfInBounds_toArray, List.set]
    refine wpC_loadA arrK (.tmp 3) bp _ (fun _ h => kp.ext h) (size_cellsF _ _) rfl rfl rfl rfl ?_
    simp only [Act.put, List.setIfInBounds_toArray, List.set]
    refine wpC_loadA arrK (.tmp 3) bp _ (fun _ h => kp.ext h) (size_cellsF _ _) rfl rfl rfl rfl ?_
    simp only [Act.put, List.setIfInBounds_toArray, List.set]
    refine wpC_callW (V := fun v w => ∃ b, v = .slice (some ⟨b, 0, none⟩) 32 32 ∧ SlB w b 32 (enc (fun i => (f i % 3329 * 4 + 3329) / 6658 % 2) 1) ∧ Ext w10 w) _ _ Try.func21 (by kernel_rfl) (by kernel_rfl) rfl rfl rfl rfl (kCompMsg_any f (fun i => (f i % 3329 * 4 + 3329) / 6658 % 2) _ HQ.out (fun i hi => by have := HQ.out i hi; rw [show f i % 3329 = f i by omega])) ?_
    rintro _ w11 ⟨bd, rfl, kd, x11⟩
    refine ⟨x11, ?_⟩
    simp only [Act.put, List.setIfInBounds_toArray, List.set]
    have X11 := Ext.trans X10 x11
    have z11 := x11.size
    replace kp := kp.ext x11
    replace kg := kg.ext x11
    replace kc := kc.ext x11
    refine wpC_val (.string (strOf 32 (enc (fun i => (f i % 3329 * 4 + 3329) / 6658 % 2) 1))) rfl rfl (fun _ h => run_str Try.underlying25 Try.underlying5 Try.underlying9 (.tmp 42) bd 32 32 _ (kd.ext h) rfl rfl) ?_
    simp only [Act.put, List.setIfInBounds_toArray, List.set]
    refine wpC_callW (V := fun v w => v = .agg (cellsF 256 (ints .i64 (fun i => f i % 3329))) ∧ Ext w11 w) _ _ Try.func22 (by kernel_rfl) (by kernel_rfl) rfl rfl rfl rfl ((of_any f _ HB.out).mono fun _ _ ⟨h1, h2⟩ => ⟨_, h1, rfl, h2⟩) ?_
    rintro _ w12 ⟨rfl, x12⟩
    refine ⟨x12, ?_⟩
    simp only [Act.put, List.setIfInBounds_toArray, List.set]
    have X12 := Ext.trans X11 x12
    have z12 := x12.size
    replace kp := kp.ext x12
    replace kg := kg.ext x12
    replace kc := kc.ext x12
    replace kd := kd.ext x12
    refine wpC_callW (V := fun v w => v = .agg (cellsF 256 (ints .i64 ((fun i => (f i % 3329 * 4 + 3329) / 6658 % 2)))) ∧ Ext w12 w) _ _ Try.func23 (by kernel_rfl) (by kernel_rfl) rfl rfl rfl rfl ((comp1_any (fun i => f i % 3329) _ (fun i _ => by omega)).mono fun _ _ ⟨h1, h2⟩ => ⟨_, h1, rfl, h2⟩) ?_
    rintro _ w13 ⟨rfl, x13⟩
    refine ⟨x13, ?_⟩
    simp only [Act.put, List.setIfInBounds_toArray, List.set]
    have X13 := Ext.trans X12 x13
    have z13 := x13.size
    replace kp := kp.ext x13
    replace kg := kg.ext x13
    replace kc := kc.ext x13
    replace kd := kd.ext x13
    refine wpC_callW (V := fun v w => ∃ b, v = .slice (some ⟨b, 0, none⟩) 32 32 ∧ SlB w b 32 (enc (fun i => (f i % 3329 * 4 + 3329) / 6658 % 2) 1) ∧ Ext w13 w) _ _ Try.func13 (by kernel_rfl) (by kernel_rfl) rfl rfl rfl rfl (enc1_any (fun i => (f i % 3329 * 4 + 3329) / 6658 % 2) _ (fun i _ => by omega)) ?_
    rintro _ w14 ⟨bh, rfl, kh, x14⟩
    refine ⟨x14, ?_⟩
    simp only [Act.put, List.setIfInBounds_toArray, List.set]
    have X14 := Ext.trans X13 x14
    have z14 := x14.size
    replace kp := kp.ext x14
    replace kg := kg.ext x14
    replace kc := kc.ext x14
    replace kd := kd.ext x14
    refine wpC_val (.string (strOf 32 (enc (fun i => (f i % 3329 * 4 + 3329) / 6658 % 2) 1))) rfl rfl (fun _ h => run_str Try.underlying25 Try.underlying5 Try.underlying9 (.tmp 47) bh 32 32 _ (kh.ext h) rfl rfl) ?_
    simp only [Act.put, List.setIfInBounds_toArray, List.set]
    refine wpC_val (.bool true) rfl rfl (fun _ _ => run_eqlS _ _ (.tmp 43) (.tmp 48) _ rfl rfl rfl) ?_
    simp only [Act.put, List.setIfInBounds_toArray, List.set]
    refine wpC_pick (.tmp 40) (.tmp 49) (.const (.bool false)) true rfl rfl rfl rfl ?_
    simp only [Act.put, List.setIfInBounds_toArray, List.set]
    refine wpC_assign (.tmp 50) rfl rfl rfl ?_
    simp only [Act.put, List.setIfInBounds_toArray, List.set]
    refine wpC_nil ?_
    go_wp2_with fail
    go_ret
    exact ⟨rfl, X14⟩
  · have HC := fun w => Lib.hid (normal_is f false w hb he)
    clear hb he hs hg
    go_wp2_with (first | (refine wpList_loadA arrK (.tmp 3) bp _ kp (size_cellsF _ _) rfl rfl rfl ?_; simp only [Act.put, List.setIfInBounds_toArray, List.set]) | (go_at_call 10; refine (HC _).out.mono ?_; rintro e w2 ⟨rfl, x2⟩; have X2 := Ext.trans X1 x2; replace kp := kp.ext x2; clear HC))
    go_ret
    exact ⟨rfl, X2⟩
set_option maxRecDepth 100000 in
theorem walk (a : Option Addr) (n c : Nat) (w : World) (hn : n ≤ 9223372036854775807) (ho : n = 0 ∨ ∃ b off f, a = some ⟨b, off, none⟩ ∧ SlO w b off n f ∧ ∀ i, i < n → 0 ≤ f i ∧ f i ≤ 255) (f : Nat → Int) (hf : ∀ i, i < 256 → (Lit.int .i16 (f i)).wf = true) :
    Calls Try.prog 6 #[.slice a n c, .agg (cellsF 256 (ints .i16 f))] w fun e w' => e = .returned (.bool true) ∧ Ext w w' := by
  by_cases h : n = 32
  · subst h
    rcases ho with h | ⟨b, off, g, rfl, hs, hg⟩
    · omega
    · exact full b off c g f w hs hg (fun i hi => bounds_i16 (hf i hi))
  · have e1 : ((n : Int) != 32) = true := by simp; omega
    clear ho hf
    go_enter Try.func6, Try.ntmps6
    refine wp_region_then ?_
    refine wpList_boxA 23 (.tmp 1) _ rfl rfl rfl ?_
    simp only [Act.put, List.setIfInBounds_toArray, List.set]
    intro w1 bp hp x1 kp
    by_cases h2 : 2147483647 < n
    · go_wp2_with fail
      go_ret
      exact ⟨rfl, x1⟩
    · go_wp2_with fail
      go_ret
      exact ⟨rfl, x1⟩

end Go.Proofs.Ytngmpnkhdjnhoaa.fnKMessageIs
