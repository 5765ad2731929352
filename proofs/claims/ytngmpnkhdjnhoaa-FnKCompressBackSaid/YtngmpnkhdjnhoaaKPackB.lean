/- KPack (Kyber). -/
import Derived.Test.YtngmpnkhdjnhoaaKPack
import Derived.Test.YtngmpnkhdjnhoaaKInts
import Derived.Test.YtngmpnkhdjnhoaaKSpec
import Derived.Lib.Hide
namespace Go.Proofs.Ytngmpnkhdjnhoaa
open Go Go.Proofs Go.RowKit Go.Kd
set_option linter.unusedSimpArgs false
set_option linter.unusedVariables false

theorem t12_0 (f : Nat → Int) (hf : ∀ i, i < 256 → 0 ≤ f i ∧ f i ≤ 4095) : ∀ r, r < 128 → enc f 12 (3 * r + 0) = f (2 * r + 0) % 256 := by
  intro r hr
  have h0 := hf (2 * r + 0) (by omega)
  have e : ∀ s, s < 8 → bitL f 12 (8 * (3 * r + 0) + s) = f (2 * r + (0 + s) / 12) / 2 ^ ((0 + s) % 12) % 2 := fun s hs => by
    unfold bitL
    rw [show (8 * (3 * r + 0) + s) / 12 = 2 * r + (0 + s) / 12 by omega, show (8 * (3 * r + 0) + s) % 12 = (0 + s) % 12 by omega]
  unfold enc
  simp only [octet]
  rw [e 0 (by omega), e 1 (by omega), e 2 (by omega), e 3 (by omega), e 4 (by omega), e 5 (by omega), e 6 (by omega), e 7 (by omega)]
  simp only [Nat.reduceAdd, Nat.reduceDiv, Nat.reduceMod]
  generalize f (2 * r + 0) = x0 at *
  omega
theorem t12_1 (f : Nat → Int) (hf : ∀ i, i < 256 → 0 ≤ f i ∧ f i ≤ 4095) : ∀ r, r < 128 → enc f 12 (3 * r + 1) = f (2 * r + 0) / 256 + f (2 * r + 1) % 16 * 16 := by
  intro r hr
  have h0 := hf (2 * r + 0) (by omega)
  have h1 := hf (2 * r + 1) (by omega)
  have e : ∀ s, s < 8 → bitL f 12 (8 * (3 * r + 1) + s) = f (2 * r + (8 + s) / 12) / 2 ^ ((8 + s) % 12) % 2 := fun s hs => by
    unfold bitL
    rw [show (8 * (3 * r + 1) + s) / 12 = 2 * r + (8 + s) / 12 by omega, show (8 * (3 * r + 1) + s) % 12 = (8 + s) % 12 by omega]
  unfold enc
  simp only [octet]
  rw [e 0 (by omega), e 1 (by omega), e 2 (by omega), e 3 (by omega), e 4 (by omega), e 5 (by omega), e 6 (by omega), e 7 (by omega)]
  simp only [Nat.reduceAdd, Nat.reduceDiv, Nat.reduceMod]
  generalize f (2 * r + 0) = x0 at *
  generalize f (2 * r + 1) = x1 at *
  omega
theorem t12_2 (f : Nat → Int) (hf : ∀ i, i < 256 → 0 ≤ f i ∧ f i ≤ 4095) : ∀ r, r < 128 → enc f 12 (3 * r + 2) = f (2 * r + 1) / 16 := by
  intro r hr
  have h1 := hf (2 * r + 1) (by omega)
  have e : ∀ s, s < 8 → bitL f 12 (8 * (3 * r + 2) + s) = f (2 * r + (16 + s) / 12) / 2 ^ ((16 + s) % 12) % 2 := fun s hs => by
    unfold bitL
    rw [show (8 * (3 * r + 2) + s) / 12 = 2 * r + (16 + s) / 12 by omega, show (8 * (3 * r + 2) + s) % 12 = (16 + s) % 12 by omega]
  unfold enc
  simp only [octet]
  rw [e 0 (by omega), e 1 (by omega), e 2 (by omega), e 3 (by omega), e 4 (by omega), e 5 (by omega), e 6 (by omega), e 7 (by omega)]
  simp only [Nat.reduceAdd, Nat.reduceDiv, Nat.reduceMod]
  generalize f (2 * r + 1) = x1 at *
  omega

theorem u12_0 (f : Nat → Int) (hf : ∀ i, i < 256 → 0 ≤ f i ∧ f i ≤ 4095) : ∀ r, r < 128 → f (2 * r + 0) = enc f 12 (3 * r + 0) + enc f 12 (3 * r + 1) % 16 * 256 := by
  intro r hr
  have h0 := hf (2 * r + 0) (by omega)
  have h1 := hf (2 * r + 1) (by omega)
  rw [t12_0 f hf r hr, t12_1 f hf r hr]
  generalize f (2 * r + 0) = x0 at *
  generalize f (2 * r + 1) = x1 at *
  omega
theorem u12_1 (f : Nat → Int) (hf : ∀ i, i < 256 → 0 ≤ f i ∧ f i ≤ 4095) : ∀ r, r < 128 → f (2 * r + 1) = enc f 12 (3 * r + 1) / 16 + enc f 12 (3 * r + 2) * 16 := by
  intro r hr
  have h0 := hf (2 * r + 0) (by omega)
  have h1 := hf (2 * r + 1) (by omega)
  rw [t12_1 f hf r hr, t12_2 f hf r hr]
  generalize f (2 * r + 0) = x0 at *
  generalize f (2 * r + 1) = x1 at *
  omega

theorem enc_bd (f : Nat → Int) (d t : Nat) : 0 ≤ enc f d t ∧ enc f d t ≤ 255 := by
  have h := octet_bd (bitL_bd f d) t 8
  unfold enc
  omega
theorem normal_is (f : Nat → Int) (v : Bool) (w : World) (hb : ∀ i, i < 256 → -32768 ≤ f i ∧ f i ≤ 32767) (he : forallB 256 (fun i => 0 ≤ f i ∧ f i < 3329) = v) :
    Calls Try.prog 10 #[.agg (cellsF 256 (ints .i16 f))] w fun e w' => e = .returned (.bool v) ∧ Ext w w' := by
  subst he
  exact normal_any f w hb
theorem kPack_any (f : Nat → Int) (w : World) (hf : ∀ i, i < 256 → 0 ≤ f i ∧ f i ≤ 4095) :
    Calls Try.prog 11 #[.agg (cellsF 256 (ints .i16 f))] w fun e w' => ∃ v, e = .returned v ∧ ∃ b, v = .slice (some ⟨b, 0, none⟩) 384 384 ∧ SlB w' b 384 (enc f 12) ∧ Ext w w' := by
  go_enter Try.func11, Try.ntmps11
  refine wp_region_then ?_
  refine wpList_boxA 23 (.tmp 0) _ rfl rfl rfl ?_
  simp only [Act.put, List.setIfInBounds_toArray, List.set]
  intro w1 bp hp x1 kp
  have X1 := Ext.trans (Ext.refl w) x1
  have z1 := x1.size
  have lp := kp.lt
  refine wpList_val (v := .slice none 0 0) rfl rfl ?_
  simp only [Act.put, List.setIfInBounds_toArray, List.set]
  refine wp_next (wp_region_then ?_)
  refine wpList_loadA arrK (.tmp 1) bp _ kp (size_cellsF _ _) rfl rfl rfl ?_
  simp only [Act.put, List.setIfInBounds_toArray, List.set]
  refine wpList_allocA 47 _ _ zeroP rfl rfl ?_
  simp only [Act.put, List.setIfInBounds_toArray, List.set]
  intro w2 bx hx x2 kx
  have X2 := Ext.trans X1 x2
  have z2 := x2.size
  replace kp := kp.ext x2
  have lx := kx.lt
  refine wpList_storeA arrP (.tmp 3) (.tmp 5) bx _ _ kx (size_cellsF _ _) (size_cellsF _ _) (one_cellsF _ _ _) rfl rfl rfl rfl ?_
  simp only [Act.put]
  clear kx
  intro w3 o3 kx
  have X3 := o3.ext X2 (by omega)
  have z3 := o3.size
  replace kp := o3.blk (by omega) kp
  refine wp_next (wp_region_then ?_)
  refine wpList_makeB Try.underlying25 infoB (.const (.int .i64 384)) (.const (.int .i64 384)) 384 (by omega) rfl rfl rfl rfl ?_
  simp only [Act.put, List.setIfInBounds_toArray, List.set]
  intro w4 bo ho x4 ko
  have X4 := Ext.trans X3 x4
  have z4 := x4.size
  replace kp := kp.ext x4
  replace kx := kx.ext x4
  have lo := ko.lt
  refine wpList_val (v := .slice (some ⟨bo, 0, none⟩) 384 384) rfl rfl ?_
  simp only [Act.put, List.setIfInBounds_toArray, List.set]
  refine wp_next ?_
  have hw0 : w.heap.size ≤ bo := by omega
  have H := Lib.hid (pack_any bx bo w w4 _ _ f (enc f 12) (fun _ => 0) kx ko X4 hw0 hf (t12_0 f hf) (t12_1 f hf) (t12_2 f hf))
  clear hf
  go_wp2_with (go_at_call 27; refine H.out.mono ?_; rintro e w' ⟨rfl, on, hk⟩)
  go_ret
  exact ⟨_, rfl, bo, rfl, hk.slB, on⟩

end Go.Proofs.Ytngmpnkhdjnhoaa
