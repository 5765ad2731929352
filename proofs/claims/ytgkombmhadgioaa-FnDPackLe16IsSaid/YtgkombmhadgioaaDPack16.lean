/- packLe16Generic, DPackLe16. -/
import Derived.Test.YtgkombmhadgioaaDTab
import Derived.Test.YtgkombmhadgioaaEnc
import Derived.Lib.Hide
namespace Go.Proofs.Ytgkombmhadgioaa
open Go Go.Proofs Go.RowKit Go.Kd
/-- two numbers below 16 in a byte -/
def pk16 (f : Nat → Int) (t : Nat) : Int := f (2 * t) + f (2 * t + 1) * 16
set_option maxRecDepth 100000 in
theorem pack16_any (b bo : Nat) (w : World) (T : TypeId) (f : Nat → Int) (hb : Blk w b T (cellsF 256 (ints .u32 f))) (ho : Blk w bo 5 (cellsF 128 (ints .u8 fun _ => 0))) (hne : b ≠ bo) (hf : ∀ i, i < 256 → 0 ≤ f i ∧ f i < 16) :
    Calls Try.prog 76 #[.pointer (some ⟨b, 0, none⟩), .slice (some ⟨bo, 0, none⟩) 128 128] w fun e w' => e = .returned (.tuple #[]) ∧ Only bo w w' ∧ Blk w' bo 5 (cellsF 128 (ints .u8 (pk16 f))) := by
  go_enter Try.func76, Try.ntmps76
  go_wp2_with fail
  go_loopw [4, 5] (fun x y wr => ∃ j : Nat, j ≤ 128 ∧ x = .int .i64 (2 * j : Nat) ∧ y = .int .i64 j ∧ Only bo w wr ∧ Blk wr bo 5 (cellsF 128 (upto j (ints .u8 (pk16 f)) (ints .u8 fun _ => 0)))) (fun _ y _ => 128 - (intOf y).toNat)
  case atStart => exact ⟨0, by omega, rfl, rfl, Only.refl _ _, by rw [upto_zero]; exact ho⟩
  case round =>
    obtain ⟨j, hj, rfl, rfl, hon, hbk⟩ := hrel
    by_cases hjl : j < 128
    · have ca : wr.cell? ⟨b, 2 * j, none⟩ = some (.int .u32 (f (2 * j))) := (hon.blk hne hb).cell (by omega)
      have cb : wr.cell? ⟨b, 2 * j + 1, none⟩ = some (.int .u32 (f (2 * j + 1))) := (hon.blk hne hb).cell (by omega)
      have cc : wr.cell? ⟨bo, j, none⟩ = some (.int .u8 0) := by have h := hbk.cell hjl; rw [upto_at] at h; exact h
      have fp := hbk.frozen j
      obtain ⟨q1, q2⟩ := hf (2 * j) (by omega)
      obtain ⟨q3, q4⟩ := hf (2 * j + 1) (by omega)
      have hpk : pk16 f j = f (2 * j) + f (2 * j + 1) * 16 := rfl
      have HP := Lib.hid hpk
      clear hb ho hf hpk
      obtain ⟨p, ep⟩ : ∃ p : Nat, p = 2 * j := ⟨_, rfl⟩
      obtain ⟨p1, ep1⟩ : ∃ p1 : Nat, p1 = 2 * j + 1 := ⟨_, rfl⟩
      rw [← ep1] at cb q3 q4 HP
      rw [← ep] at ca q1 q2 HP
      have e0 : 2 * (j : Int) = (p : Int) := by omega
      have e1 : (p : Int) + 1 = (p1 : Int) := by omega
      have e2 : IntKind.i64.wrap (p1 : Int) = (p1 : Int) := by rw [IntKind.wrap_i64]; omega
      have l1 : (p : Int) < 256 := by omega
      have l2 : (p1 : Int) < 256 := by omega
      have l3 : (j : Int) < 128 := by omega
      generalize f p = x at *
      generalize f p1 = y at *
      have u1 : IntKind.u8.wrap x = x := by rw [IntKind.wrap_u8]; omega
      have u2 : IntKind.u32.wrap (y * 16) = y * 16 := by rw [IntKind.wrap_u32]; omega
      have u3 : IntKind.u8.wrap (y * 16) = y * 16 := by rw [IntKind.wrap_u8]; omega
      have hor : bits .or .u8 x (y * 16) = x + y * 16 := or8 x _ 4 y q1 (by omega) (by omega) q3 (by omega)
      have EP := Lib.hid ep
      have EP1 := Lib.hid ep1
      clear ep ep1
      go_wp2_with fail
      go_still_tail 18, (by kernel_rfl)
      go_wp2_with fail
      go_roundw
      case rel =>
        have ep := EP.out
        refine ⟨j + 1, by omega, by go_num, by go_num, (hon.drew).setCell _, ?_⟩
        have h1 := Blk.setCell (hbk.drew) j (ints .u8 (pk16 f) j)
        rw [upto_set (by rfl)] at h1
        rw [show ints .u8 (pk16 f) j = .int .u8 (x + y * 16) by unfold ints; rw [HP.out]] at h1
        exact h1
      case measure => simp [intOf]; omega
    · have hj' : j = 128 := by omega
      subst hj'
      go_wp2_with fail
      go_end0
      exact ⟨rfl, hon, by rw [upto_all] at hbk; exact hbk⟩

theorem pack16M_any (b bo : Nat) (w : World) (T : TypeId) (f : Nat → Int) (hb : Blk w b T (cellsF 256 (ints .u32 f))) (ho : Blk w bo 5 (cellsF 128 (ints .u8 fun _ => 0))) (hne : b ≠ bo) (hf : ∀ i, i < 256 → 0 ≤ f i ∧ f i < 16) :
    Calls Try.prog 56 #[.pointer (some ⟨b, 0, none⟩), .slice (some ⟨bo, 0, none⟩) 128 128] w fun e w' => e = .returned (.tuple #[]) ∧ Only bo w w' ∧ Blk w' bo 5 (cellsF 128 (ints .u8 (pk16 f))) := by
  have H := Lib.hid (pack16_any b bo w T f hb ho hne hf)
  clear hb ho hf hne
  go_enter Try.func56, Try.ntmps56
  go_wp2_with (go_at_call 76; refine H.out.mono ?_; rintro e w' ⟨rfl, hq⟩)
  go_end0
  exact ⟨rfl, hq⟩

theorem dPack16_any (f : Nat → Int) (w : World) (hf : ∀ i, i < 256 → 0 ≤ f i ∧ f i < 16) :
    Calls Try.prog 34 #[.agg (cellsF 256 (ints .u32 f))] w fun e w' => ∃ v, e = .returned v ∧ ∃ b, v = .slice (some ⟨b, 0, none⟩) 128 128 ∧ SlB w' b 128 (pk16 f) ∧ Ext w w' := by
  go_enter Try.func34, Try.ntmps34
  refine wp_region_then ?_
  refine wpList_boxA 27 (.tmp 0) _ rfl rfl rfl ?_
  simp only [Act.put, List.setIfInBounds_toArray, List.set]
  intro w1 bp hp x1 kp
  have X1 := Ext.trans (Ext.refl w) x1
  have z1 := x1.size
  have lp := kp.lt
  refine wpList_val (v := .slice none 0 0) rfl rfl ?_
  simp only [Act.put, List.setIfInBounds_toArray, List.set]
  refine wp_next (wp_region_then ?_)
  refine wpList_loadA arrK (.tmp 1) bp _ kp (size_cellsF _ _) rfl rfl rfl ?_
  simp only [Act.put, List.setIfInBounds_toArray, List.set]
  refine wpList_allocA 52 _ _ zeroP rfl rfl ?_
  simp only [Act.put, List.setIfInBounds_toArray, List.set]
  intro w2 bx hx x2 kx
  have X2 := Ext.trans X1 x2
  have z2 := x2.size
  replace kp := kp.ext x2
  have lx := kx.lt
  refine wpList_storeA arrP (.tmp 3) (.tmp 5) bx _ _ kx (size_cellsF _ _) (size_cellsF _ _) (one_cellsF _ _ _) rfl rfl rfl rfl ?_
  simp only [Act.put]
  clear kx
  intro w3 o3 kx
  have X3 := o3.ext X2 (by omega)
  have z3 := o3.size
  replace kp := o3.blk (by omega) kp
  refine wp_next (wp_region_then ?_)
  refine wpList_makeB Try.underlying46 infoB (.const (.int .i64 128)) (.const (.int .i64 128)) 128 (by omega) rfl rfl rfl rfl ?_
  simp only [Act.put, List.setIfInBounds_toArray, List.set]
  intro w4 bo ho x4 ko
  have X4 := Ext.trans X3 x4
  have z4 := x4.size
  replace kp := kp.ext x4
  replace kx := kx.ext x4
  have lo := ko.lt
  refine wpList_val (v := .slice (some ⟨bo, 0, none⟩) 128 128) rfl rfl ?_
  simp only [Act.put, List.setIfInBounds_toArray, List.set]
  refine wp_next ?_
  have H := Lib.hid (pack16M_any bx bo w4 _ f kx ko (by omega) hf)
  have HX := Lib.hid X4
  have hw0 : w.heap.size ≤ bo := by omega
  clear hf
  go_wp2_with (go_at_call 56; refine H.out.mono ?_; rintro e w' ⟨rfl, on, hk⟩)
  go_ret
  exact ⟨_, rfl, bo, rfl, hk.slB, on.ext HX.out hw0⟩
end Go.Proofs.Ytgkombmhadgioaa
