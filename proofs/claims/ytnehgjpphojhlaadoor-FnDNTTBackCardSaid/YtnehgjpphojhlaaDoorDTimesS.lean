/- D.TimesD: the reference's polynomial times a number. -/
import Derived.Test.YtnehgjpphojhlaaDoorDSpec
import Derived.Test.YtnehgjpphojhlaaDoorDMod
import Derived.Lib.Hide
namespace Go.Proofs.YtnehgjpphojhlaaDoor
open Go Go.Proofs Go.RowKit Go.Kd
set_option linter.unusedSimpArgs false
set_option maxRecDepth 100000 in
theorem timesD_any (g : Nat → Int) (n : Int) (w : World) (hg : ∀ i, i < 256 → 0 ≤ g i ∧ g i < 8380417) (hn : 0 ≤ n ∧ n ≤ 4294967296) : Calls Tryd.prog 18 #[.agg (cellsF 256 (ints .i64 g)), .int .i64 n] w fun e w' => e = .returned (.agg (cellsF 256 (ints .i64 (fun i => g i * (n % 8380417) % 8380417)))) ∧ Ext w w' := by
  go_enter Tryd.func18, Tryd.ntmps18
  refine wp_region_then ?_
  refine wpList_boxA 32 (.tmp 0) _ rfl rfl rfl ?_
  simp only [Act.put, List.setIfInBounds_toArray, List.set_cons_succ, List.set_cons_zero]
  intro w1 bk hk x1 kk
  have X1 := Ext.trans (Ext.refl w) x1
  have z1 := x1.size
  have lk := kk.lt
  refine wpList_allocA 32 _ _ zeroS rfl rfl ?_
  simp only [Act.put, List.setIfInBounds_toArray, List.set_cons_succ, List.set_cons_zero]
  intro w2 br hr x2 kr
  have X2 := Ext.trans X1 x2
  have z2 := x2.size
  replace kk := kk.ext x2
  have lr := kr.lt
  refine wp_next (wp_seq (wp_region_then ?_))
  refine wpList_val (v := .int .i64 0) rfl rfl ?_
  simp only [Act.put, List.setIfInBounds_toArray, List.set_cons_succ, List.set_cons_zero]
  refine wp_next ?_
  obtain ⟨n1, n2⟩ := hn
  have m1 := Int.emod_nonneg n (by decide : (8380417 : Int) ≠ 0)
  have m2 := Int.emod_lt_of_pos n (by decide : (0 : Int) < 8380417)
  have hw0 : w.heap.size ≤ bk := by omega
  have hw1 : w.heap.size ≤ br := by omega
  have hlt : bk < br := by omega
  have HX := Lib.hid X2
  clear X1 X2
  go_wp2_with fail
  go_loopw [6] (fun i wr => ∃ j : Nat, j ≤ 256 ∧ i = .int .i64 j ∧ Only bk w2 wr ∧ Blk wr bk 32 (cellsF 256 (upto j (ints .i64 (fun i => g i * (n % 8380417) % 8380417)) (ints .i64 g)))) (fun i _ => 256 - (intOf i).toNat)
  case atStart => exact ⟨0, by omega, rfl, Only.refl _ _, by rw [upto_zero]; exact kk⟩
  case round =>
    obtain ⟨j, hj, rfl, ho, hbk⟩ := hrel
    by_cases hjl : j < 256
    · obtain ⟨q1, q2⟩ := hg j hjl
      have q3 : 0 ≤ g j * (n % 8380417) := Int.mul_nonneg q1 m1
      have q4 : g j * (n % 8380417) ≤ 8380417 * 8380417 := Int.mul_le_mul (by omega) (by omega) m1 (by omega)
      have q5 : IntKind.i64.wrap (g j * (n % 8380417)) = g j * (n % 8380417) := IntWalk.i64_in _ ⟨by omega, by omega⟩
      have ca : wr.cell? ⟨bk, j, none⟩ = some (.int .i64 (g j)) := by have h := hbk.cell hjl; rw [upto_at] at h; exact h
      have fp := hbk.frozen j
      clear hg
      go_wp2_with fail
      go_still_tail 9, mixed
      still_call (Calls.mono (mod_any n _ (by omega)) fun _ _ ⟨h1, h2⟩ => ⟨h1, h2.symm⟩)
      repeat still_step

      still_call (Calls.mono (mod_any (g j * (n % 8380417)) _ (by omega)) fun _ _ ⟨h1, h2⟩ => ⟨h1, h2.symm⟩)
      repeat still_step
      refine wpStill_nil ?_
      go_wp2_with fail
      go_roundw
      case rel =>
        refine ⟨j + 1, by omega, by go_num, (ho.drew).setCell _, ?_⟩
        have h1 := Blk.setCell (hbk.drew) j (ints .i64 (fun i => g i * (n % 8380417) % 8380417) j)
        rw [upto_set (by rfl)] at h1
        exact h1
      case measure => simp [intOf]; omega
    · have hj' : j = 256 := by omega
      subst hj'
      rw [upto_all] at hbk
      have kr2 := ho.blk (by omega) kr
      have HO := Lib.hid ho
      clear hg ho
      go_wp2_with (first | (refine wpList_loadA arrS (.tmp 2) bk _ hbk (size_cellsF _ _) rfl rfl rfl ?_; simp only [Act.put, List.setIfInBounds_toArray, List.set_cons_succ, List.set_cons_zero]) | (refine wpList_storeA arrS (.tmp 4) (.tmp 19) br _ _ kr2 (size_cellsF _ _) (size_cellsF _ _) (one_cellsF _ _ _) rfl rfl rfl rfl ?_; simp only [Act.put]; intro wy oy ky))
      exact bodyPost_cellA arrS rfl br _ ky (size_cellsF _ _) rfl rfl ⟨rfl, oy.ext (HO.out.ext HX.out hw0) hw1⟩



end Go.Proofs.YtnehgjpphojhlaaDoor
