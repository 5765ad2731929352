/- DPackB60, DUnpackB60. -/
import Derived.Test.YtcgliedglahphaaDB60U
import Derived.Test.YtcgliedglahphaaClone
import Derived.Test.YtcgliedglahphaaRet
import Derived.Lib.Hide
namespace Go.Proofs.Ytcgliedglahphaa
open Go Go.Proofs Go.RowKit Go.Kd
set_option linter.unusedSimpArgs false
set_option linter.unusedVariables false

theorem dPackB60_any (f : Nat → Int) (w : World) (hf : ∀ i, i < 256 → f i = 0 ∨ f i = 1 ∨ f i = 8380416) (h60 : rk f 256 ≤ 60) :
    Calls Try.prog 4 #[.agg (cellsF 256 (ints .u32 f))] w fun e w' => ∃ v, e = .returned v ∧ ∃ b, v = .slice (some ⟨b, 0, none⟩) 40 40 ∧ SlB w' b 40 (b60 f) ∧ Ext w w' := by
  go_enter Try.func4, Try.ntmps4
  refine wp_region_then ?_
  refine wpList_boxA 23 (.tmp 0) _ rfl rfl rfl ?_
  simp only [Act.put, List.setIfInBounds_toArray, List.set]
  intro w1 bp hp x1 kp
  have X1 := Ext.trans (Ext.refl w) x1
  have z1 := x1.size
  have lp := kp.lt
  refine wpList_val (v := .slice none 0 0) rfl rfl ?_
  simp only [Act.put, List.setIfInBounds_toArray, List.set]
  refine wp_next (wp_region_then ?_)
  refine wpList_loadA arrK (.tmp 1) bp _ kp (size_cellsF _ _) rfl rfl rfl ?_
  simp only [Act.put, List.setIfInBounds_toArray, List.set]
  refine wpList_allocA 29 _ _ zeroP rfl rfl ?_
  simp only [Act.put, List.setIfInBounds_toArray, List.set]
  intro w2 bx hx x2 kx
  have X2 := Ext.trans X1 x2
  have z2 := x2.size
  replace kp := kp.ext x2
  have lx := kx.lt
  refine wpList_storeA arrP (.tmp 3) (.tmp 5) bx _ _ kx (size_cellsF _ _) (size_cellsF _ _) (one_cellsF _ _ _) rfl rfl rfl rfl ?_
  simp only [Act.put]
  clear kx
  intro w3 o3 kx
  have X3 := o3.ext X2 (by omega)
  have z3 := o3.size
  replace kp := o3.blk (by omega) kp
  refine wp_next (wp_region_then ?_)
  refine wpList_makeB Try.underlying24 infoB (.const (.int .i64 40)) (.const (.int .i64 40)) 40 (by omega) rfl rfl rfl rfl ?_
  simp only [Act.put, List.setIfInBounds_toArray, List.set]
  intro w4 bo ho x4 ko
  have X4 := Ext.trans X3 x4
  have z4 := x4.size
  replace kp := kp.ext x4
  replace kx := kx.ext x4
  have lo := ko.lt
  refine wpList_val (v := .slice (some ⟨bo, 0, none⟩) 40 40) rfl rfl ?_
  simp only [Act.put, List.setIfInBounds_toArray, List.set]
  refine wp_next ?_
  have hne : bx ≠ bo := by omega
  have H := Lib.hid (packB60_any bx bo w4 _ f kx.rowK ko hne hf h60)
  have HX := Lib.hid X4
  have hw0 : w.heap.size ≤ bo := by omega
  clear hf h60
  go_wp2_with (go_at_call 6; refine H.out.mono ?_; rintro e w' ⟨rfl, on, hk⟩)
  go_ret
  exact ⟨_, rfl, bo, rfl, hk.slB, on.ext HX.out hw0⟩

theorem dUnpackB60_any (b c : Nat) (f : Nat → Int) (w : World) (hb : SlB w b 40 (b60 f)) (hf : ∀ i, i < 256 → f i = 0 ∨ f i = 1 ∨ f i = 8380416) (h60 : rk f 256 ≤ 60) :
    Calls Try.prog 5 #[.slice (some ⟨b, 0, none⟩) 40 c] w fun e w' => e = .returned (.tuple #[.agg (cellsF 256 (ints .u32 f)), .bool true]) ∧ Ext w w' := by
  go_enter Try.func5, Try.ntmps5
  refine wp_region_then ?_
  refine wpList_allocA 23 _ _ zeroK rfl rfl ?_
  simp only [Act.put, List.setIfInBounds_toArray, List.set]
  intro w1 br hr x1 kr
  have X1 := Ext.trans (Ext.refl w) x1
  have z1 := x1.size
  have lr := kr.lt
  refine wpList_val (v := .bool false) rfl rfl ?_
  simp only [Act.put, List.setIfInBounds_toArray, List.set]
  refine wp_next ?_
  have HB := Lib.hid (hb.ext X1)
  have HU := fun (g bx cap : Nat) (w3 : World) (h1 : SlB w3 g 40 (b60 f)) (h2 : Blk w3 bx 29 (cellsF 256 (ints .u32 fun _ => 0))) (h3 : g ≠ bx) => Lib.hid (unpackB60_any g bx cap w3 _ f (fun _ => 0) h1.rowK h2 h3 hf h60)
  clear hb hf h60
  go_wp2_with (first | (refine wpList_allocA 29 _ _ zeroP rfl rfl ?_; simp only [Act.put, List.setIfInBounds_toArray, List.set]; intro w2 bx hx x2 kx; have X2 := Ext.trans X1 x2; replace kr := kr.ext x2; have lx := kx.lt) | (go_at_call 8; refine (clone_any b 40 c (b60 f) _ (by omega) (HB.out.ext x2)).mono ?_; rintro e w3 ⟨v, rfl, g, cap, rfl, hg, kg, x3⟩; have X3 := Ext.trans X2 x3; replace kr := kr.ext x3; replace kx := kx.ext x3) | (go_at_call 7; refine (HU g bx cap _ kg kx (by omega)).out.mono ?_; rintro e w4 ⟨rfl, o4, k4⟩; have kr4 := o4.blk (by omega) kr; have X4 := o4.ext X3 (by omega)) | (refine wpList_loadA arrP (.tmp 4) bx _ k4 (size_cellsF _ _) rfl rfl rfl ?_; simp only [Act.put, List.setIfInBounds_toArray, List.set]) | (refine wpList_storeA arrK (.tmp 2) (.tmp 13) br _ _ kr4 (size_cellsF _ _) (size_cellsF _ _) (one_cellsF _ _ _) rfl rfl rfl rfl ?_; simp only [Act.put]; intro w5 o5 k5))
  exact bodyPost_cell_tmp arrK rfl br _ _ k5 (size_cellsF _ _) rfl rfl rfl ⟨rfl, o5.ext X4 (by omega)⟩
end Go.Proofs.Ytcgliedglahphaa
