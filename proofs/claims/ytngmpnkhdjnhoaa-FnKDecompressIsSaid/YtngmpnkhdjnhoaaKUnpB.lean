/- KUnpack (Kyber). -/
import Derived.Test.YtngmpnkhdjnhoaaKPackB
import Derived.Test.YtngmpnkhdjnhoaaClone
import Derived.Test.YtngmpnkhdjnhoaaRet
import Derived.Lib.Hide
namespace Go.Proofs.Ytngmpnkhdjnhoaa
open Go Go.Proofs Go.RowKit Go.Kd
set_option linter.unusedSimpArgs false
set_option linter.unusedVariables false

theorem kUnpack_any (b off c : Nat) (f G : Nat → Int) (w : World) (hb : SlO w b off 384 f) (hf : ∀ i, i < 384 → 0 ≤ f i ∧ f i ≤ 255) (hG0 : ∀ r, r < 128 → G (2 * r + 0) = f (3 * r + 0) + f (3 * r + 1) % 16 * 256) (hG1 : ∀ r, r < 128 → G (2 * r + 1) = f (3 * r + 1) / 16 + f (3 * r + 2) * 16) :
    Calls Try.prog 15 #[.slice (some ⟨b, off, none⟩) 384 c] w fun e w' => e = .returned (.tuple #[.agg (cellsF 256 (ints .i16 G)), .bool true]) ∧ Ext w w' := by
  go_enter Try.func15, Try.ntmps15
  refine wp_region_then ?_
  refine wpList_allocA 23 _ _ zeroK rfl rfl ?_
  simp only [Act.put, List.setIfInBounds_toArray, List.set]
  intro w1 br hr x1 kr
  have X1 := Ext.trans (Ext.refl w) x1
  have z1 := x1.size
  have lr := kr.lt
  refine wpList_val (v := .bool false) rfl rfl ?_
  simp only [Act.put, List.setIfInBounds_toArray, List.set]
  refine wp_next ?_
  have HB := Lib.hid (hb.ext X1)
  have HU := fun (g bx cap : Nat) (w3 : World) (h1 : SlB w3 g 384 f) (h2 : Blk w3 bx 47 (cellsF 256 (ints .i16 fun _ => 0))) (h3 : g ≠ bx) => Lib.hid (unpack_any g bx cap w3 _ f G (fun _ => 0) h1.rowK h2 h3 hf hG0 hG1)
  clear hb hf hG0 hG1
  go_wp2_with (first | (refine wpList_allocA 47 _ _ zeroP rfl rfl ?_; simp only [Act.put, List.setIfInBounds_toArray, List.set]; intro w2 bx hx x2 kx; have X2 := Ext.trans X1 x2; replace kr := kr.ext x2; have lx := kx.lt) | (go_at_call 30; refine (clone_at b off 384 c f _ (by omega) (HB.out.ext x2)).mono ?_; rintro e w3 ⟨v, rfl, g, cap, rfl, hg, kg, x3⟩; have X3 := Ext.trans X2 x3; replace kr := kr.ext x3; replace kx := kx.ext x3) | (go_at_call 29; refine (HU g bx cap _ kg kx (by omega)).out.mono ?_; rintro e w4 ⟨rfl, o4, k4⟩; have kr4 := o4.blk (by omega) kr; have X4 := o4.ext X3 (by omega)) | (refine wpList_loadA arrP (.tmp 4) bx _ k4 (size_cellsF _ _) rfl rfl rfl ?_; simp only [Act.put, List.setIfInBounds_toArray, List.set]) | (refine wpList_storeA arrK (.tmp 2) (.tmp 12) br _ _ kr4 (size_cellsF _ _) (size_cellsF _ _) (one_cellsF _ _ _) rfl rfl rfl rfl ?_; simp only [Act.put]; intro w5 o5 k5))
  exact bodyPost_cell_tmp arrK rfl br _ _ k5 (size_cellsF _ _) rfl rfl rfl ⟨rfl, o5.ext X4 (by omega)⟩

end Go.Proofs.Ytngmpnkhdjnhoaa
