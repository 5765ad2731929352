/- laws.FnKUnpackIs returns true at every slice of bytes. -/
import Derived.Test.YtngmpnkhdjnhoaaKUnpB
import Derived.Test.YtngmpnkhdjnhoaaDecK
import Derived.Test.YtngmpnkhdjnhoaaSlice
import Derived.Lib.Hide
namespace Go.Proofs.Ytngmpnkhdjnhoaa.fnKUnpackIs
open Go Go.Proofs Go.RowKit Go.Kd
set_option linter.unusedSimpArgs false
set_option linter.unusedVariables false

theorem d12_0 (f : Nat → Int) (hf : ∀ i, i < 384 → 0 ≤ f i ∧ f i ≤ 255) : ∀ r, r < 128 → decN f 12 (2 * r + 0) = f (3 * r + 0) + f (3 * r + 1) % 16 * 256 := by
  intro r hr
  have h0 := hf (3 * r + 0) (by omega)
  have h1 := hf (3 * r + 1) (by omega)
  have e : ∀ k, k < 12 → f (((2 * r + 0) * 12 + k) / 8) / 2 ^ (((2 * r + 0) * 12 + k) % 8) % 2 = f (3 * r + (0 + k) / 8) / 2 ^ ((0 + k) % 8) % 2 := fun k hk => by
    rw [show ((2 * r + 0) * 12 + k) / 8 = 3 * r + (0 + k) / 8 by omega, show ((2 * r + 0) * 12 + k) % 8 = (0 + k) % 8 by omega]
  unfold decN
  simp only [decS]
  rw [e 0 (by omega), e 1 (by omega), e 2 (by omega), e 3 (by omega), e 4 (by omega), e 5 (by omega), e 6 (by omega), e 7 (by omega), e 8 (by omega), e 9 (by omega), e 10 (by omega), e 11 (by omega)]
  simp only [Nat.reduceAdd, Nat.reduceDiv, Nat.reduceMod]
  generalize f (3 * r + 0) = x0 at *
  generalize f (3 * r + 1) = x1 at *
  omega
theorem d12_1 (f : Nat → Int) (hf : ∀ i, i < 384 → 0 ≤ f i ∧ f i ≤ 255) : ∀ r, r < 128 → decN f 12 (2 * r + 1) = f (3 * r + 1) / 16 + f (3 * r + 2) * 16 := by
  intro r hr
  have h1 := hf (3 * r + 1) (by omega)
  have h2 := hf (3 * r + 2) (by omega)
  have e : ∀ k, k < 12 → f (((2 * r + 1) * 12 + k) / 8) / 2 ^ (((2 * r + 1) * 12 + k) % 8) % 2 = f (3 * r + (12 + k) / 8) / 2 ^ ((12 + k) % 8) % 2 := fun k hk => by
    rw [show ((2 * r + 1) * 12 + k) / 8 = 3 * r + (12 + k) / 8 by omega, show ((2 * r + 1) * 12 + k) % 8 = (12 + k) % 8 by omega]
  unfold decN
  simp only [decS]
  rw [e 0 (by omega), e 1 (by omega), e 2 (by omega), e 3 (by omega), e 4 (by omega), e 5 (by omega), e 6 (by omega), e 7 (by omega), e 8 (by omega), e 9 (by omega), e 10 (by omega), e 11 (by omega)]
  simp only [Nat.reduceAdd, Nat.reduceDiv, Nat.reduceMod]
  generalize f (3 * r + 1) = x1 at *
  generalize f (3 * r + 2) = x2 at *
  omega

set_option maxRecDepth 100000 in
set_option maxHeartbeats 1000000 in
theorem full (b off c : Nat) (f : Nat → Int) (w : World) (hs : SlO w b off 384 f) (hf : ∀ i, i < 384 → 0 ≤ f i ∧ f i ≤ 255) :
    Calls Try.prog 4 #[.slice (some ⟨b, off, none⟩) 384 c] w fun e w' => e = .returned (.bool true) ∧ Ext w w' := by
  have HU := Lib.hid (kUnpack_any b off c f (decN f 12) w hs hf (d12_0 f hf) (d12_1 f hf))
  have HD := fun w1 (h : Ext w w1) => Lib.hid (dec12_any b off c f w1 (hs.ext h) hf)
  have hd : ∀ i, i < 256 → -32768 ≤ decN f 12 i ∧ decN f 12 i ≤ 32767 := fun i _ => by
    have h := decS_bd f 12 i 12
    unfold decN
    omega
  have HI := fun w1 => Lib.hid (lints_any (decN f 12) w1 hd)
  clear hs hf hd
  go_enter Try.func4, Try.ntmps4
  go_wp2_with (first | (go_at_call 15; refine HU.out.mono ?_; rintro e w1 ⟨rfl, x1⟩; clear HU) | (refine wpList_allocA 23 _ _ zeroK rfl rfl ?_; simp only [Act.put, List.setIfInBounds_toArray, List.set]; intro w2 bg hg x2 kg; have X2 := Ext.trans x1 x2; have zz := x1.size) | (refine wpList_storeA arrK (.tmp 3) (.tmp 14) bg _ _ kg (size_cellsF _ _) (size_cellsF _ _) (one_cellsF _ _ _) rfl rfl rfl rfl ?_; simp only [Act.put]; clear kg; intro w3 o3 kg; have X3 := o3.ext X2 (by omega)) | (refine wpList_loadA arrK (.tmp 3) bg _ kg (size_cellsF _ _) rfl rfl rfl ?_; simp only [Act.put, List.setIfInBounds_toArray, List.set]) | (go_at_call 16; refine (kDetangle_any (decN f 12) _).mono ?_; rintro e w4 ⟨rfl, x4⟩; have X4 := Ext.trans X3 x4) | (go_at_call 14; refine (HI _).out.mono ?_; rintro e w5 ⟨rfl, x5⟩; have X5 := Ext.trans X4 x5) | (go_at_call 17; refine (HD _ X5).out.mono ?_; rintro e w6 ⟨rfl, x6⟩; have X6 := Ext.trans X5 x6) | (refine wpList_eql intI (.tmp 20) (.tmp 22) _ (decN f 12) (decN f 12) true (eq_dec fun _ _ => rfl) rfl rfl rfl rfl ?_; simp only [Act.put, List.setIfInBounds_toArray, List.set]) | (go_at_call 18; refine (one_any _).mono ?_; rintro e w7 ⟨rfl, x7⟩; have X7 := Ext.trans X6 x7) | (go_at_call 12; refine (kTangle_any oneF _).mono ?_; rintro e w8 ⟨rfl, x8⟩; have X8 := Ext.trans X7 x8) | (refine wpList_build0 intK _ zeroK rfl rfl ?_; simp only [Act.put, List.setIfInBounds_toArray, List.set]) | (refine wpList_neq intK (.tmp 27) (.tmp 28) _ oneF (fun _ => 0) true (ne_dec 0 (by omega) (by simp [oneF])) rfl rfl rfl rfl ?_; simp only [Act.put, List.setIfInBounds_toArray, List.set]))
  go_ret
  exact ⟨rfl, X8⟩
set_option maxRecDepth 100000 in
theorem walk (a : Option Addr) (n c : Nat) (w : World) (hn : n ≤ 9223372036854775807) (ho : n = 0 ∨ ∃ b off f, a = some ⟨b, off, none⟩ ∧ SlO w b off n f ∧ ∀ i, i < n → 0 ≤ f i ∧ f i ≤ 255) :
    Calls Try.prog 4 #[.slice a n c] w fun e w' => e = .returned (.bool true) ∧ Ext w w' := by
  by_cases h : n = 384
  · subst h
    rcases ho with h | ⟨b, off, f, rfl, hs, hf⟩
    · omega
    · exact full b off c f w hs hf
  · have e1 : ((n : Int) != 384) = true := by simp; omega
    clear ho
    go_enter Try.func4, Try.ntmps4
    by_cases h2 : 2147483647 < n
    · go_wp2_with fail
      go_ret
      exact ⟨rfl, Ext.refl _⟩
    · go_wp2_with fail
      go_ret
      exact ⟨rfl, Ext.refl _⟩

end Go.Proofs.Ytngmpnkhdjnhoaa.fnKUnpackIs
