/- DPackT1, DUnpackT1. -/
import Derived.Test.YtgkombmhadgioaaDPackT1
import Derived.Test.YtgkombmhadgioaaClone
import Derived.Test.YtgkombmhadgioaaRet
import Derived.Test.YtgkombmhadgioaaDTab
import Derived.Lib.Hide
namespace Go.Proofs.Ytgkombmhadgioaa
open Go Go.Proofs Go.RowKit Go.Kd
set_option linter.unusedSimpArgs false
set_option linter.unusedVariables false

theorem t1_0 (f : Nat → Int) (hf : ∀ i, i < 256 → 0 ≤ f i ∧ f i ≤ 1023) : ∀ r, r < 64 → enc f 10 (5 * r + 0) = f (4 * r + 0) % 256 := by
  intro r hr
  have h0 := hf (4 * r + 0) (by omega)
  have h1 := hf (4 * r + 1) (by omega)
  have h2 := hf (4 * r + 2) (by omega)
  have h3 := hf (4 * r + 3) (by omega)
  have e : ∀ s, s < 8 → bitL f 10 (8 * (5 * r + 0) + s) = f (4 * r + (0 + s) / 10) / 2 ^ ((0 + s) % 10) % 2 := fun s hs => by
    unfold bitL
    rw [show (8 * (5 * r + 0) + s) / 10 = 4 * r + (0 + s) / 10 by omega, show (8 * (5 * r + 0) + s) % 10 = (0 + s) % 10 by omega]
  unfold enc
  simp only [octet]
  rw [e 0 (by omega), e 1 (by omega), e 2 (by omega), e 3 (by omega), e 4 (by omega), e 5 (by omega), e 6 (by omega), e 7 (by omega)]
  simp only [Nat.reduceAdd, Nat.reduceDiv, Nat.reduceMod]
  generalize f (4 * r + 0) = x0 at *
  generalize f (4 * r + 1) = x1 at *
  generalize f (4 * r + 2) = x2 at *
  generalize f (4 * r + 3) = x3 at *
  omega
theorem t1_1 (f : Nat → Int) (hf : ∀ i, i < 256 → 0 ≤ f i ∧ f i ≤ 1023) : ∀ r, r < 64 → enc f 10 (5 * r + 1) = f (4 * r + 0) / 256 + f (4 * r + 1) % 64 * 4 := by
  intro r hr
  have h0 := hf (4 * r + 0) (by omega)
  have h1 := hf (4 * r + 1) (by omega)
  have h2 := hf (4 * r + 2) (by omega)
  have h3 := hf (4 * r + 3) (by omega)
  have e : ∀ s, s < 8 → bitL f 10 (8 * (5 * r + 1) + s) = f (4 * r + (8 + s) / 10) / 2 ^ ((8 + s) % 10) % 2 := fun s hs => by
    unfold bitL
    rw [show (8 * (5 * r + 1) + s) / 10 = 4 * r + (8 + s) / 10 by omega, show (8 * (5 * r + 1) + s) % 10 = (8 + s) % 10 by omega]
  unfold enc
  simp only [octet]
  rw [e 0 (by omega), e 1 (by omega), e 2 (by omega), e 3 (by omega), e 4 (by omega), e 5 (by omega), e 6 (by omega), e 7 (by omega)]
  simp only [Nat.reduceAdd, Nat.reduceDiv, Nat.reduceMod]
  generalize f (4 * r + 0) = x0 at *
  generalize f (4 * r + 1) = x1 at *
  generalize f (4 * r + 2) = x2 at *
  generalize f (4 * r + 3) = x3 at *
  omega
theorem t1_2 (f : Nat → Int) (hf : ∀ i, i < 256 → 0 ≤ f i ∧ f i ≤ 1023) : ∀ r, r < 64 → enc f 10 (5 * r + 2) = f (4 * r + 1) / 64 + f (4 * r + 2) % 16 * 16 := by
  intro r hr
  have h0 := hf (4 * r + 0) (by omega)
  have h1 := hf (4 * r + 1) (by omega)
  have h2 := hf (4 * r + 2) (by omega)
  have h3 := hf (4 * r + 3) (by omega)
  have e : ∀ s, s < 8 → bitL f 10 (8 * (5 * r + 2) + s) = f (4 * r + (16 + s) / 10) / 2 ^ ((16 + s) % 10) % 2 := fun s hs => by
    unfold bitL
    rw [show (8 * (5 * r + 2) + s) / 10 = 4 * r + (16 + s) / 10 by omega, show (8 * (5 * r + 2) + s) % 10 = (16 + s) % 10 by omega]
  unfold enc
  simp only [octet]
  rw [e 0 (by omega), e 1 (by omega), e 2 (by omega), e 3 (by omega), e 4 (by omega), e 5 (by omega), e 6 (by omega), e 7 (by omega)]
  simp only [Nat.reduceAdd, Nat.reduceDiv, Nat.reduceMod]
  generalize f (4 * r + 0) = x0 at *
  generalize f (4 * r + 1) = x1 at *
  generalize f (4 * r + 2) = x2 at *
  generalize f (4 * r + 3) = x3 at *
  omega
theorem t1_3 (f : Nat → Int) (hf : ∀ i, i < 256 → 0 ≤ f i ∧ f i ≤ 1023) : ∀ r, r < 64 → enc f 10 (5 * r + 3) = f (4 * r + 2) / 16 + f (4 * r + 3) % 4 * 64 := by
  intro r hr
  have h0 := hf (4 * r + 0) (by omega)
  have h1 := hf (4 * r + 1) (by omega)
  have h2 := hf (4 * r + 2) (by omega)
  have h3 := hf (4 * r + 3) (by omega)
  have e : ∀ s, s < 8 → bitL f 10 (8 * (5 * r + 3) + s) = f (4 * r + (24 + s) / 10) / 2 ^ ((24 + s) % 10) % 2 := fun s hs => by
    unfold bitL
    rw [show (8 * (5 * r + 3) + s) / 10 = 4 * r + (24 + s) / 10 by omega, show (8 * (5 * r + 3) + s) % 10 = (24 + s) % 10 by omega]
  unfold enc
  simp only [octet]
  rw [e 0 (by omega), e 1 (by omega), e 2 (by omega), e 3 (by omega), e 4 (by omega), e 5 (by omega), e 6 (by omega), e 7 (by omega)]
  simp only [Nat.reduceAdd, Nat.reduceDiv, Nat.reduceMod]
  generalize f (4 * r + 0) = x0 at *
  generalize f (4 * r + 1) = x1 at *
  generalize f (4 * r + 2) = x2 at *
  generalize f (4 * r + 3) = x3 at *
  omega
theorem t1_4 (f : Nat → Int) (hf : ∀ i, i < 256 → 0 ≤ f i ∧ f i ≤ 1023) : ∀ r, r < 64 → enc f 10 (5 * r + 4) = f (4 * r + 3) / 4 := by
  intro r hr
  have h0 := hf (4 * r + 0) (by omega)
  have h1 := hf (4 * r + 1) (by omega)
  have h2 := hf (4 * r + 2) (by omega)
  have h3 := hf (4 * r + 3) (by omega)
  have e : ∀ s, s < 8 → bitL f 10 (8 * (5 * r + 4) + s) = f (4 * r + (32 + s) / 10) / 2 ^ ((32 + s) % 10) % 2 := fun s hs => by
    unfold bitL
    rw [show (8 * (5 * r + 4) + s) / 10 = 4 * r + (32 + s) / 10 by omega, show (8 * (5 * r + 4) + s) % 10 = (32 + s) % 10 by omega]
  unfold enc
  simp only [octet]
  rw [e 0 (by omega), e 1 (by omega), e 2 (by omega), e 3 (by omega), e 4 (by omega), e 5 (by omega), e 6 (by omega), e 7 (by omega)]
  simp only [Nat.reduceAdd, Nat.reduceDiv, Nat.reduceMod]
  generalize f (4 * r + 0) = x0 at *
  generalize f (4 * r + 1) = x1 at *
  generalize f (4 * r + 2) = x2 at *
  generalize f (4 * r + 3) = x3 at *
  omega
theorem u1_0 (f : Nat → Int) (hf : ∀ i, i < 256 → 0 ≤ f i ∧ f i ≤ 1023) : ∀ r, r < 64 → f (4 * r + 0) = enc f 10 (5 * r + 0) + enc f 10 (5 * r + 1) % 4 * 256 := by
  intro r hr
  have h0 := hf (4 * r + 0) (by omega)
  have h1 := hf (4 * r + 1) (by omega)
  have h2 := hf (4 * r + 2) (by omega)
  have h3 := hf (4 * r + 3) (by omega)
  rw [t1_0 f hf r hr, t1_1 f hf r hr]
  generalize f (4 * r + 0) = x0 at *
  generalize f (4 * r + 1) = x1 at *
  generalize f (4 * r + 2) = x2 at *
  generalize f (4 * r + 3) = x3 at *
  omega
theorem u1_1 (f : Nat → Int) (hf : ∀ i, i < 256 → 0 ≤ f i ∧ f i ≤ 1023) : ∀ r, r < 64 → f (4 * r + 1) = enc f 10 (5 * r + 1) / 4 + enc f 10 (5 * r + 2) % 16 * 64 := by
  intro r hr
  have h0 := hf (4 * r + 0) (by omega)
  have h1 := hf (4 * r + 1) (by omega)
  have h2 := hf (4 * r + 2) (by omega)
  have h3 := hf (4 * r + 3) (by omega)
  rw [t1_1 f hf r hr, t1_2 f hf r hr]
  generalize f (4 * r + 0) = x0 at *
  generalize f (4 * r + 1) = x1 at *
  generalize f (4 * r + 2) = x2 at *
  generalize f (4 * r + 3) = x3 at *
  omega
theorem u1_2 (f : Nat → Int) (hf : ∀ i, i < 256 → 0 ≤ f i ∧ f i ≤ 1023) : ∀ r, r < 64 → f (4 * r + 2) = enc f 10 (5 * r + 2) / 16 + enc f 10 (5 * r + 3) % 64 * 16 := by
  intro r hr
  have h0 := hf (4 * r + 0) (by omega)
  have h1 := hf (4 * r + 1) (by omega)
  have h2 := hf (4 * r + 2) (by omega)
  have h3 := hf (4 * r + 3) (by omega)
  rw [t1_2 f hf r hr, t1_3 f hf r hr]
  generalize f (4 * r + 0) = x0 at *
  generalize f (4 * r + 1) = x1 at *
  generalize f (4 * r + 2) = x2 at *
  generalize f (4 * r + 3) = x3 at *
  omega
theorem u1_3 (f : Nat → Int) (hf : ∀ i, i < 256 → 0 ≤ f i ∧ f i ≤ 1023) : ∀ r, r < 64 → f (4 * r + 3) = enc f 10 (5 * r + 3) / 64 + enc f 10 (5 * r + 4) * 4 := by
  intro r hr
  have h0 := hf (4 * r + 0) (by omega)
  have h1 := hf (4 * r + 1) (by omega)
  have h2 := hf (4 * r + 2) (by omega)
  have h3 := hf (4 * r + 3) (by omega)
  rw [t1_3 f hf r hr, t1_4 f hf r hr]
  generalize f (4 * r + 0) = x0 at *
  generalize f (4 * r + 1) = x1 at *
  generalize f (4 * r + 2) = x2 at *
  generalize f (4 * r + 3) = x3 at *
  omega
theorem enc_bd (f : Nat → Int) (d t : Nat) : 0 ≤ enc f d t ∧ enc f d t ≤ 255 := by
  have h := octet_bd (bitL_bd f d) t 8
  unfold enc
  omega
theorem dPackT1_any (f : Nat → Int) (w : World) (hf : ∀ i, i < 256 → 0 ≤ f i ∧ f i ≤ 1023) :
    Calls Try.prog 37 #[.agg (cellsF 256 (ints .u32 f))] w fun e w' => ∃ v, e = .returned v ∧ ∃ b, v = .slice (some ⟨b, 0, none⟩) 320 320 ∧ SlB w' b 320 (enc f 10) ∧ Ext w w' := by
  go_enter Try.func37, Try.ntmps37
  refine wp_region_then ?_
  refine wpList_boxA 27 (.tmp 0) _ rfl rfl rfl ?_
  simp only [Act.put, List.setIfInBounds_toArray, List.set]
  intro w1 bp hp x1 kp
  have X1 := Ext.trans (Ext.refl w) x1
  have z1 := x1.size
  have lp := kp.lt
  refine wpList_val (v := .slice none 0 0) rfl rfl ?_
  simp only [Act.put, List.setIfInBounds_toArray, List.set]
  refine wp_next (wp_region_then ?_)
  refine wpList_loadA arrK (.tmp 1) bp _ kp (size_cellsF _ _) rfl rfl rfl ?_
  simp only [Act.put, List.setIfInBounds_toArray, List.set]
  refine wpList_allocA 52 _ _ zeroP rfl rfl ?_
  simp only [Act.put, List.setIfInBounds_toArray, List.set]
  intro w2 bx hx x2 kx
  have X2 := Ext.trans X1 x2
  have z2 := x2.size
  replace kp := kp.ext x2
  have lx := kx.lt
  refine wpList_storeA arrP (.tmp 3) (.tmp 5) bx _ _ kx (size_cellsF _ _) (size_cellsF _ _) (one_cellsF _ _ _) rfl rfl rfl rfl ?_
  simp only [Act.put]
  clear kx
  intro w3 o3 kx
  have X3 := o3.ext X2 (by omega)
  have z3 := o3.size
  replace kp := o3.blk (by omega) kp
  refine wp_next (wp_region_then ?_)
  refine wpList_makeB Try.underlying46 infoB (.const (.int .i64 320)) (.const (.int .i64 320)) 320 (by omega) rfl rfl rfl rfl ?_
  simp only [Act.put, List.setIfInBounds_toArray, List.set]
  intro w4 bo ho x4 ko
  have X4 := Ext.trans X3 x4
  have z4 := x4.size
  replace kp := kp.ext x4
  replace kx := kx.ext x4
  have lo := ko.lt
  refine wpList_val (v := .slice (some ⟨bo, 0, none⟩) 320 320) rfl rfl ?_
  simp only [Act.put, List.setIfInBounds_toArray, List.set]
  refine wp_next ?_
  have hne : bx ≠ bo := by omega
  have H := Lib.hid (packT1_any bx bo w4 _ f (enc f 10) (fun _ => 0) kx.rowK ko hne hf (t1_0 f hf) (t1_1 f hf) (t1_2 f hf) (t1_3 f hf) (t1_4 f hf))
  have HX := Lib.hid X4
  have hw0 : w.heap.size ≤ bo := by omega
  clear hf
  go_wp2_with (go_at_call 57; refine H.out.mono ?_; rintro e w' ⟨rfl, on, hk⟩)
  go_ret
  exact ⟨_, rfl, bo, rfl, hk.slB, on.ext HX.out hw0⟩

theorem dUnpackT1_any (b c : Nat) (f G : Nat → Int) (w : World) (hb : SlB w b 320 f) (hf : ∀ i, i < 320 → 0 ≤ f i ∧ f i ≤ 255) (hG0 : ∀ r, r < 64 → G (4 * r + 0) = f (5 * r + 0) + f (5 * r + 1) % 4 * 256) (hG1 : ∀ r, r < 64 → G (4 * r + 1) = f (5 * r + 1) / 4 + f (5 * r + 2) % 16 * 64) (hG2 : ∀ r, r < 64 → G (4 * r + 2) = f (5 * r + 2) / 16 + f (5 * r + 3) % 64 * 16) (hG3 : ∀ r, r < 64 → G (4 * r + 3) = f (5 * r + 3) / 64 + f (5 * r + 4) * 4) :
    Calls Try.prog 38 #[.slice (some ⟨b, 0, none⟩) 320 c] w fun e w' => e = .returned (.tuple #[.agg (cellsF 256 (ints .u32 G)), .bool true]) ∧ Ext w w' := by
  go_enter Try.func38, Try.ntmps38
  refine wp_region_then ?_
  refine wpList_allocA 27 _ _ zeroK rfl rfl ?_
  simp only [Act.put, List.setIfInBounds_toArray, List.set]
  intro w1 br hr x1 kr
  have X1 := Ext.trans (Ext.refl w) x1
  have z1 := x1.size
  have lr := kr.lt
  refine wpList_val (v := .bool false) rfl rfl ?_
  simp only [Act.put, List.setIfInBounds_toArray, List.set]
  refine wp_next ?_
  have HB := Lib.hid (hb.ext X1)
  have HU := fun (g bx cap : Nat) (w3 : World) (h1 : SlB w3 g 320 f) (h2 : Blk w3 bx 52 (cellsF 256 (ints .u32 fun _ => 0))) (h3 : g ≠ bx) => Lib.hid (unpackT1_any g bx cap w3 _ f G (fun _ => 0) h1.rowK h2 h3 hf hG0 hG1 hG2 hG3)
  clear hb hf hG0 hG1 hG2 hG3
  go_wp2_with (first | (refine wpList_allocA 52 _ _ zeroP rfl rfl ?_; simp only [Act.put, List.setIfInBounds_toArray, List.set]; intro w2 bx hx x2 kx; have X2 := Ext.trans X1 x2; replace kr := kr.ext x2; have lx := kx.lt) | (go_at_call 59; refine (clone_any b 320 c f _ (by omega) (HB.out.ext x2)).mono ?_; rintro e w3 ⟨v, rfl, g, cap, rfl, hg, kg, x3⟩; have X3 := Ext.trans X2 x3; replace kr := kr.ext x3; replace kx := kx.ext x3) | (go_at_call 58; refine (HU g bx cap _ kg kx (by omega)).out.mono ?_; rintro e w4 ⟨rfl, o4, k4⟩; have kr4 := o4.blk (by omega) kr; have X4 := o4.ext X3 (by omega)) | (refine wpList_loadA arrP (.tmp 4) bx _ k4 (size_cellsF _ _) rfl rfl rfl ?_; simp only [Act.put, List.setIfInBounds_toArray, List.set]) | (refine wpList_storeA arrK (.tmp 2) (.tmp 12) br _ _ kr4 (size_cellsF _ _) (size_cellsF _ _) (one_cellsF _ _ _) rfl rfl rfl rfl ?_; simp only [Act.put]; intro w5 o5 k5))
  exact bodyPost_cell_tmp arrK rfl br _ _ k5 (size_cellsF _ _) rfl rfl rfl ⟨rfl, o5.ext X4 (by omega)⟩

end Go.Proofs.Ytgkombmhadgioaa
