/- laws.FnKDecompressIs returns true at every slice of bytes and number. -/
import Derived.Test.YtngmpnkhdjnhoaaKCd4B
import Derived.Test.YtngmpnkhdjnhoaaKCd5B
import Derived.Test.YtngmpnkhdjnhoaaKCd10B
import Derived.Test.YtngmpnkhdjnhoaaKCd11B
import Derived.Test.YtngmpnkhdjnhoaaCompK
import Derived.Test.YtngmpnkhdjnhoaaKInts
import Derived.Test.YtngmpnkhdjnhoaaKIsD
import Derived.Test.YtngmpnkhdjnhoaaSlice
import Derived.Lib.Hide
namespace Go.Proofs.Ytngmpnkhdjnhoaa.fnKDecompressIs
open Go Go.Proofs Go.RowKit Go.Kd
set_option linter.unusedSimpArgs false
set_option linter.unusedVariables false

set_option maxRecDepth 100000 in
set_option maxHeartbeats 2000000 in
theorem full4 (b off c : Nat) (f : Nat → Int) (w : World) (hs : SlO w b off 128 f) (hf : ∀ i, i < 128 → 0 ≤ f i ∧ f i ≤ 255) :
    Calls Try.prog 7 #[.slice (some ⟨b, off, none⟩) 128 c, .int .i64 4] w fun e w' => e = .returned (.bool true) ∧ Ext w w' := by
  have HU := Lib.hid (cd4.kDec_any b off c f w hs hf)
  have HD := fun w1 (h : Ext w w1) => Lib.hid (dec4_any b off c f w1 (hs.ext h) hf)
  have HN := fun w1 => Lib.hid (normal_is (cd4.G f) true w1 (fun i _ => by have := cd4.G_bd f i; omega) (forallB_true fun i _ => by have := cd4.G_bd f i; omega))
  have HI := fun w1 => Lib.hid (lints_any (cd4.G f) w1 (fun i _ => by have := cd4.G_bd f i; omega))
  have HP := fun w1 => Lib.hid (decomp4_any (decN f 4) w1 (fun i _ => cd4.dec_bd f i))
  clear hs hf
  go_enter Try.func7, Try.ntmps7
  go_wp2_with (first | (go_at_call 24; refine (isd_4 _).mono ?_; rintro e w' ⟨rfl, rfl⟩) | (go_at_call 25; refine HU.out.mono ?_; rintro e w1 ⟨rfl, x1⟩; clear HU) | (refine wpList_allocA 23 _ _ zeroK rfl rfl ?_; simp only [Act.put, List.setIfInBounds_toArray, List.set]; intro w2 bg hg x2 kg; have X2 := Ext.trans x1 x2; have zz := x1.size) | (refine wpList_storeA arrK (.tmp 5) (.tmp 24) bg _ _ kg (size_cellsF _ _) (size_cellsF _ _) (one_cellsF _ _ _) rfl rfl rfl rfl ?_; simp only [Act.put]; clear kg; intro w3 o3 kg; have X3 := o3.ext X2 (by omega)) | (refine wpList_loadA arrK (.tmp 5) bg _ kg (size_cellsF _ _) rfl rfl rfl ?_; simp only [Act.put, List.setIfInBounds_toArray, List.set]) | (go_at_call 10; refine (HN _).out.mono ?_; rintro e w4 ⟨rfl, x4⟩; have X4 := Ext.trans X3 x4; replace kg := kg.ext x4) | (go_at_call 14; refine (HI _).out.mono ?_; rintro e w5 ⟨rfl, x5⟩; have X5 := Ext.trans X4 x5) | (go_at_call 17; refine (HD _ X5).out.mono ?_; rintro e w6 ⟨rfl, x6⟩; have X6 := Ext.trans X5 x6) | (go_at_call 20; refine (HP _).out.mono ?_; rintro e w7 ⟨rfl, x7⟩; have X7 := Ext.trans X6 x7) | (refine wpList_eql intI (.tmp 33) (.tmp 38) _ (cd4.G f) (fun i => (6658 * decN f 4 i + 16) / 32) true (eq_dec fun _ _ => rfl) rfl rfl rfl rfl ?_; simp only [Act.put, List.setIfInBounds_toArray, List.set]))
  go_ret
  exact ⟨rfl, X7⟩

set_option maxRecDepth 100000 in
set_option maxHeartbeats 2000000 in
theorem full5 (b off c : Nat) (f : Nat → Int) (w : World) (hs : SlO w b off 160 f) (hf : ∀ i, i < 160 → 0 ≤ f i ∧ f i ≤ 255) :
    Calls Try.prog 7 #[.slice (some ⟨b, off, none⟩) 160 c, .int .i64 5] w fun e w' => e = .returned (.bool true) ∧ Ext w w' := by
  have HU := Lib.hid (cd5.kDec_any b off c f w hs hf)
  have HD := fun w1 (h : Ext w w1) => Lib.hid (dec5_any b off c f w1 (hs.ext h) hf)
  have HN := fun w1 => Lib.hid (normal_is (cd5.G f) true w1 (fun i _ => by have := cd5.G_bd f i; omega) (forallB_true fun i _ => by have := cd5.G_bd f i; omega))
  have HI := fun w1 => Lib.hid (lints_any (cd5.G f) w1 (fun i _ => by have := cd5.G_bd f i; omega))
  have HP := fun w1 => Lib.hid (decomp5_any (decN f 5) w1 (fun i _ => cd5.dec_bd f i))
  clear hs hf
  go_enter Try.func7, Try.ntmps7
  go_wp2_with (first | (go_at_call 24; refine (isd_5 _).mono ?_; rintro e w' ⟨rfl, rfl⟩) | (go_at_call 25; refine HU.out.mono ?_; rintro e w1 ⟨rfl, x1⟩; clear HU) | (refine wpList_allocA 23 _ _ zeroK rfl rfl ?_; simp only [Act.put, List.setIfInBounds_toArray, List.set]; intro w2 bg hg x2 kg; have X2 := Ext.trans x1 x2; have zz := x1.size) | (refine wpList_storeA arrK (.tmp 5) (.tmp 24) bg _ _ kg (size_cellsF _ _) (size_cellsF _ _) (one_cellsF _ _ _) rfl rfl rfl rfl ?_; simp only [Act.put]; clear kg; intro w3 o3 kg; have X3 := o3.ext X2 (by omega)) | (refine wpList_loadA arrK (.tmp 5) bg _ kg (size_cellsF _ _) rfl rfl rfl ?_; simp only [Act.put, List.setIfInBounds_toArray, List.set]) | (go_at_call 10; refine (HN _).out.mono ?_; rintro e w4 ⟨rfl, x4⟩; have X4 := Ext.trans X3 x4; replace kg := kg.ext x4) | (go_at_call 14; refine (HI _).out.mono ?_; rintro e w5 ⟨rfl, x5⟩; have X5 := Ext.trans X4 x5) | (go_at_call 17; refine (HD _ X5).out.mono ?_; rintro e w6 ⟨rfl, x6⟩; have X6 := Ext.trans X5 x6) | (go_at_call 20; refine (HP _).out.mono ?_; rintro e w7 ⟨rfl, x7⟩; have X7 := Ext.trans X6 x7) | (refine wpList_eql intI (.tmp 33) (.tmp 38) _ (cd5.G f) (fun i => (6658 * decN f 5 i + 32) / 64) true (eq_dec fun _ _ => rfl) rfl rfl rfl rfl ?_; simp only [Act.put, List.setIfInBounds_toArray, List.set]))
  go_ret
  exact ⟨rfl, X7⟩

set_option maxRecDepth 100000 in
set_option maxHeartbeats 2000000 in
theorem full10 (b off c : Nat) (f : Nat → Int) (w : World) (hs : SlO w b off 320 f) (hf : ∀ i, i < 320 → 0 ≤ f i ∧ f i ≤ 255) :
    Calls Try.prog 7 #[.slice (some ⟨b, off, none⟩) 320 c, .int .i64 10] w fun e w' => e = .returned (.bool true) ∧ Ext w w' := by
  have HU := Lib.hid (cd10.kDec_any b off c f w hs hf)
  have HD := fun w1 (h : Ext w w1) => Lib.hid (dec10_any b off c f w1 (hs.ext h) hf)
  have HN := fun w1 => Lib.hid (normal_is (cd10.G f) true w1 (fun i _ => by have := cd10.G_bd f i; omega) (forallB_true fun i _ => by have := cd10.G_bd f i; omega))
  have HI := fun w1 => Lib.hid (lints_any (cd10.G f) w1 (fun i _ => by have := cd10.G_bd f i; omega))
  have HP := fun w1 => Lib.hid (decomp10_any (decN f 10) w1 (fun i _ => cd10.dec_bd f i))
  clear hs hf
  go_enter Try.func7, Try.ntmps7
  go_wp2_with (first | (go_at_call 24; refine (isd_10 _).mono ?_; rintro e w' ⟨rfl, rfl⟩) | (go_at_call 25; refine HU.out.mono ?_; rintro e w1 ⟨rfl, x1⟩; clear HU) | (refine wpList_allocA 23 _ _ zeroK rfl rfl ?_; simp only [Act.put, List.setIfInBounds_toArray, List.set]; intro w2 bg hg x2 kg; have X2 := Ext.trans x1 x2; have zz := x1.size) | (refine wpList_storeA arrK (.tmp 5) (.tmp 24) bg _ _ kg (size_cellsF _ _) (size_cellsF _ _) (one_cellsF _ _ _) rfl rfl rfl rfl ?_; simp only [Act.put]; clear kg; intro w3 o3 kg; have X3 := o3.ext X2 (by omega)) | (refine wpList_loadA arrK (.tmp 5) bg _ kg (size_cellsF _ _) rfl rfl rfl ?_; simp only [Act.put, List.setIfInBounds_toArray, List.set]) | (go_at_call 10; refine (HN _).out.mono ?_; rintro e w4 ⟨rfl, x4⟩; have X4 := Ext.trans X3 x4; replace kg := kg.ext x4) | (go_at_call 14; refine (HI _).out.mono ?_; rintro e w5 ⟨rfl, x5⟩; have X5 := Ext.trans X4 x5) | (go_at_call 17; refine (HD _ X5).out.mono ?_; rintro e w6 ⟨rfl, x6⟩; have X6 := Ext.trans X5 x6) | (go_at_call 20; refine (HP _).out.mono ?_; rintro e w7 ⟨rfl, x7⟩; have X7 := Ext.trans X6 x7) | (refine wpList_eql intI (.tmp 33) (.tmp 38) _ (cd10.G f) (fun i => (6658 * decN f 10 i + 1024) / 2048) true (eq_dec fun _ _ => rfl) rfl rfl rfl rfl ?_; simp only [Act.put, List.setIfInBounds_toArray, List.set]))
  go_ret
  exact ⟨rfl, X7⟩

set_option maxRecDepth 100000 in
set_option maxHeartbeats 2000000 in
theorem full11 (b off c : Nat) (f : Nat → Int) (w : World) (hs : SlO w b off 352 f) (hf : ∀ i, i < 352 → 0 ≤ f i ∧ f i ≤ 255) :
    Calls Try.prog 7 #[.slice (some ⟨b, off, none⟩) 352 c, .int .i64 11] w fun e w' => e = .returned (.bool true) ∧ Ext w w' := by
  have HU := Lib.hid (cd11.kDec_any b off c f w hs hf)
  have HD := fun w1 (h : Ext w w1) => Lib.hid (dec11_any b off c f w1 (hs.ext h) hf)
  have HN := fun w1 => Lib.hid (normal_is (cd11.G f) true w1 (fun i _ => by have := cd11.G_bd f i; omega) (forallB_true fun i _ => by have := cd11.G_bd f i; omega))
  have HI := fun w1 => Lib.hid (lints_any (cd11.G f) w1 (fun i _ => by have := cd11.G_bd f i; omega))
  have HP := fun w1 => Lib.hid (decomp11_any (decN f 11) w1 (fun i _ => cd11.dec_bd f i))
  clear hs hf
  go_enter Try.func7, Try.ntmps7
  go_wp2_with (first | (go_at_call 24; refine (isd_11 _).mono ?_; rintro e w' ⟨rfl, rfl⟩) | (go_at_call 25; refine HU.out.mono ?_; rintro e w1 ⟨rfl, x1⟩; clear HU) | (refine wpList_allocA 23 _ _ zeroK rfl rfl ?_; simp only [Act.put, List.setIfInBounds_toArray, List.set]; intro w2 bg hg x2 kg; have X2 := Ext.trans x1 x2; have zz := x1.size) | (refine wpList_storeA arrK (.tmp 5) (.tmp 24) bg _ _ kg (size_cellsF _ _) (size_cellsF _ _) (one_cellsF _ _ _) rfl rfl rfl rfl ?_; simp only [Act.put]; clear kg; intro w3 o3 kg; have X3 := o3.ext X2 (by omega)) | (refine wpList_loadA arrK (.tmp 5) bg _ kg (size_cellsF _ _) rfl rfl rfl ?_; simp only [Act.put, List.setIfInBounds_toArray, List.set]) | (go_at_call 10; refine (HN _).out.mono ?_; rintro e w4 ⟨rfl, x4⟩; have X4 := Ext.trans X3 x4; replace kg := kg.ext x4) | (go_at_call 14; refine (HI _).out.mono ?_; rintro e w5 ⟨rfl, x5⟩; have X5 := Ext.trans X4 x5) | (go_at_call 17; refine (HD _ X5).out.mono ?_; rintro e w6 ⟨rfl, x6⟩; have X6 := Ext.trans X5 x6) | (go_at_call 20; refine (HP _).out.mono ?_; rintro e w7 ⟨rfl, x7⟩; have X7 := Ext.trans X6 x7) | (refine wpList_eql intI (.tmp 33) (.tmp 38) _ (cd11.G f) (fun i => (6658 * decN f 11 i + 2048) / 4096) true (eq_dec fun _ _ => rfl) rfl rfl rfl rfl ?_; simp only [Act.put, List.setIfInBounds_toArray, List.set]))
  go_ret
  exact ⟨rfl, X7⟩

set_option maxRecDepth 100000 in
theorem walk (a : Option Addr) (n c : Nat) (w : World) (hn : n ≤ 9223372036854775807) (ho : n = 0 ∨ ∃ b off f, a = some ⟨b, off, none⟩ ∧ SlO w b off n f ∧ ∀ i, i < n → 0 ≤ f i ∧ f i ≤ 255) (d : Int) (hd : (Lit.int .i64 d).wf = true) :
    Calls Try.prog 7 #[.slice a n c, .int .i64 d] w fun e w' => e = .returned (.bool true) ∧ Ext w w' := by
  clear hd
  by_cases h4 : d = 4
  · subst h4
    by_cases h : n = 128
    · subst h
      rcases ho with h | ⟨b, off, f, rfl, hs, hf⟩
      · omega
      · exact full4 b off c f w hs hf
    · have e1 : ((n : Int) != 128) = true := by simp; omega
      clear ho
      go_enter Try.func7, Try.ntmps7
      by_cases h2 : 2147483647 < n
      · go_wp2_with (go_at_call 24; refine (isd_4 _).mono ?_; rintro e w' ⟨rfl, rfl⟩)
        go_ret
        exact ⟨rfl, Ext.refl _⟩
      · go_wp2_with (go_at_call 24; refine (isd_4 _).mono ?_; rintro e w' ⟨rfl, rfl⟩)
        go_ret
        exact ⟨rfl, Ext.refl _⟩
  by_cases h5 : d = 5
  · subst h5
    by_cases h : n = 160
    · subst h
      rcases ho with h | ⟨b, off, f, rfl, hs, hf⟩
      · omega
      · exact full5 b off c f w hs hf
    · have e1 : ((n : Int) != 160) = true := by simp; omega
      clear ho
      go_enter Try.func7, Try.ntmps7
      by_cases h2 : 2147483647 < n
      · go_wp2_with (go_at_call 24; refine (isd_5 _).mono ?_; rintro e w' ⟨rfl, rfl⟩)
        go_ret
        exact ⟨rfl, Ext.refl _⟩
      · go_wp2_with (go_at_call 24; refine (isd_5 _).mono ?_; rintro e w' ⟨rfl, rfl⟩)
        go_ret
        exact ⟨rfl, Ext.refl _⟩
  by_cases h10 : d = 10
  · subst h10
    by_cases h : n = 320
    · subst h
      rcases ho with h | ⟨b, off, f, rfl, hs, hf⟩
      · omega
      · exact full10 b off c f w hs hf
    · have e1 : ((n : Int) != 320) = true := by simp; omega
      clear ho
      go_enter Try.func7, Try.ntmps7
      by_cases h2 : 2147483647 < n
      · go_wp2_with (go_at_call 24; refine (isd_10 _).mono ?_; rintro e w' ⟨rfl, rfl⟩)
        go_ret
        exact ⟨rfl, Ext.refl _⟩
      · go_wp2_with (go_at_call 24; refine (isd_10 _).mono ?_; rintro e w' ⟨rfl, rfl⟩)
        go_ret
        exact ⟨rfl, Ext.refl _⟩
  by_cases h11 : d = 11
  · subst h11
    by_cases h : n = 352
    · subst h
      rcases ho with h | ⟨b, off, f, rfl, hs, hf⟩
      · omega
      · exact full11 b off c f w hs hf
    · have e1 : ((n : Int) != 352) = true := by simp; omega
      clear ho
      go_enter Try.func7, Try.ntmps7
      by_cases h2 : 2147483647 < n
      · go_wp2_with (go_at_call 24; refine (isd_11 _).mono ?_; rintro e w' ⟨rfl, rfl⟩)
        go_ret
        exact ⟨rfl, Ext.refl _⟩
      · go_wp2_with (go_at_call 24; refine (isd_11 _).mono ?_; rintro e w' ⟨rfl, rfl⟩)
        go_ret
        exact ⟨rfl, Ext.refl _⟩
  have HI := fun w => Lib.hid (isd_no d h4 h5 h10 h11 w)
  clear ho h4 h5 h10 h11
  go_enter Try.func7, Try.ntmps7
  by_cases h2 : 2147483647 < n
  · go_wp2_with (go_at_call 24; refine (HI _).out.mono ?_; rintro e w' ⟨rfl, rfl⟩)
    go_ret
    exact ⟨rfl, Ext.refl _⟩
  · go_wp2_with (go_at_call 24; refine (HI _).out.mono ?_; rintro e w' ⟨rfl, rfl⟩)
    go_ret
    exact ⟨rfl, Ext.refl _⟩
end Go.Proofs.Ytngmpnkhdjnhoaa.fnKDecompressIs
