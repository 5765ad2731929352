/- The reference's polynomials modulo the prime, and the statements' helpers (Kyber): spec.Of, K.Is, K.Times, laws.normal, laws.within. -/
import Derived.Test.YtgojphoejmbliaaDoorKTab
import Derived.Test.YtgojphoejmbliaaDoorKMod
import Derived.Test.YtgojphoejmbliaaDoorKField
import Derived.Test.YtgojphoejmbliaaDoorUpto
import Derived.Lib.Hide
namespace Go.Proofs.YtgojphoejmbliaaDoor
open Go Go.Proofs Go.RowKit Go.Kd

set_option maxRecDepth 100000 in
theorem of_any (f : Nat → Int) (w : World) (hf : ∀ i, i < 256 → -32768 ≤ f i ∧ f i ≤ 32767) : Calls Tryd.prog 9 #[.agg (cellsF 256 (ints .i16 f))] w fun e w' => e = .returned (.agg (cellsF 256 (ints .i64 (fun i => f i % 3329)))) ∧ Ext w w' := by
  go_enter Tryd.func9, Tryd.ntmps9
  refine wp_region_then ?_
  refine wpList_boxA 23 (.tmp 0) _ rfl rfl rfl ?_
  simp only [Act.put, List.setIfInBounds_toArray, List.set_cons_succ, List.set_cons_zero]
  intro w1 bp hp x1 kp
  have X1 := Ext.trans (Ext.refl w) x1
  have z1 := x1.size
  have lp := kp.lt
  refine wpList_allocA 29 _ _ zeroS rfl rfl ?_
  simp only [Act.put, List.setIfInBounds_toArray, List.set_cons_succ, List.set_cons_zero]
  intro w2 br hr x2 kr
  have X2 := Ext.trans X1 x2
  have z2 := x2.size
  replace kp := kp.ext x2
  have lr := kr.lt
  refine wp_next (wp_region_then ?_)
  refine wpList_build0 intS _ zeroS rfl rfl ?_
  simp only [Act.put, List.setIfInBounds_toArray, List.set_cons_succ, List.set_cons_zero]
  refine wpList_allocA 29 _ _ zeroS rfl rfl ?_
  simp only [Act.put, List.setIfInBounds_toArray, List.set_cons_succ, List.set_cons_zero]
  intro w3 bo ho x3 ko
  have X3 := Ext.trans X2 x3
  have z3 := x3.size
  replace kp := kp.ext x3
  replace kr := kr.ext x3
  have lo := ko.lt
  refine wpList_storeA arrS (.tmp 3) (.tmp 6) bo _ (zeros 256 .i64) ko (size_cellsF _ _) (size_cellsF _ _) (one_cellsF _ _ _) rfl rfl rfl rfl ?_
  simp only [Act.put]
  clear ko
  intro w4 o4 ko
  have X4 := o4.ext X3 (by omega)
  have z4 := o4.size
  replace kp := o4.blk (by omega) kp
  replace kr := o4.blk (by omega) kr
  refine wp_next (wp_seq (wp_region_then ?_))
  refine wpList_loadA arrK (.tmp 1) bp _ kp (size_cellsF _ _) rfl rfl rfl ?_
  simp only [Act.put, List.setIfInBounds_toArray, List.set_cons_succ, List.set_cons_zero]
  refine wpList_val (v := .int .i64 0) rfl rfl ?_
  simp only [Act.put, List.setIfInBounds_toArray, List.set_cons_succ, List.set_cons_zero]
  refine wp_next ?_
  have hix : ∀ (j : Nat), j < 256 → ∀ wz, (Instr.index 23 (.agg (cellsF 256 (ints .i16 f))) (.int .i64 (j : Int))).run Tryd.prog wz = .ok (.int .i16 (f j)) wz := fun j hj wz => run_index intK _ j hj
  have hlt : br < bo := by omega
  have hw0 : w.heap.size ≤ bo := by omega
  have hw1 : w.heap.size ≤ br := by omega
  have HX := Lib.hid X4
  clear X1 X2 X3 X4
  go_wp2_with fail
  go_loopw [8] (fun i wr => ∃ j : Nat, j ≤ 256 ∧ i = .int .i64 j ∧ Only bo w4 wr ∧ Blk wr bo 29 (cellsF 256 (upto j (ints .i64 (fun i => f i % 3329)) (ints .i64 fun _ => 0)))) (fun i _ => 256 - (intOf i).toNat)
  case atStart => exact ⟨0, by omega, rfl, Only.refl _ _, by rw [upto_zero]; exact ko⟩
  case round =>
    obtain ⟨j, hj, rfl, ho, hbk⟩ := hrel
    by_cases hjl : j < 256
    · have h1 := hix j hjl
      have h2 := hf j hjl
      obtain ⟨q1, q2⟩ := h2
      have ca : wr.cell? ⟨bo, j, none⟩ = some (.int .i64 0) := by have h := hbk.cell hjl; rw [upto_at] at h; exact h
      have fp := hbk.frozen j
      clear hix hf
      go_wp2_with (go_at_call 17; refine (mod_any _ _ (by omega)).mono ?_; rintro e w' ⟨rfl, rfl⟩)
      go_roundw
      case rel =>
        refine ⟨j + 1, by omega, by go_num, ho.setCell _, ?_⟩
        have h1 := Blk.setCell hbk j (ints .i64 (fun i => f i % 3329) j)
        rw [upto_set (by rfl)] at h1
        exact h1
      case measure => simp [intOf]; omega
    · have hj' : j = 256 := by omega
      subst hj'
      rw [upto_all] at hbk
      have kr2 := ho.blk (by omega) kr
      have HO := Lib.hid ho
      clear hix hf ho
      go_wp2_with (first | (refine wpList_loadA arrS (.tmp 3) bo _ hbk (size_cellsF _ _) rfl rfl rfl ?_; simp only [Act.put, List.setIfInBounds_toArray, List.set_cons_succ, List.set_cons_zero]) | (refine wpList_storeA arrS (.tmp 2) (.tmp 18) br _ _ kr2 (size_cellsF _ _) (size_cellsF _ _) (one_cellsF _ _ _) rfl rfl rfl rfl ?_; simp only [Act.put]; intro wy oy ky))
      exact bodyPost_cellA arrS rfl br _ ky (size_cellsF _ _) rfl rfl ⟨rfl, oy.ext (HO.out.ext HX.out hw0) hw1⟩


theorem is_any (g f : Nat → Int) (w : World) (hf : ∀ i, i < 256 → -32768 ≤ f i ∧ f i ≤ 32767) (h : ∀ i, i < 256 → g i = f i % 3329) : Calls Tryd.prog 11 #[.agg (cellsF 256 (ints .i64 g)), .agg (cellsF 256 (ints .i16 f))] w fun e w' => e = .returned (.bool true) ∧ Ext w w' := by
  go_enter Tryd.func11, Tryd.ntmps11
  refine wp_region_then ?_
  refine wpList_boxA 29 (.tmp 0) _ rfl rfl rfl ?_
  simp only [Act.put, List.setIfInBounds_toArray, List.set_cons_succ, List.set_cons_zero]
  intro w1 bk hk x1 kk
  have X1 := Ext.trans (Ext.refl w) x1
  have z1 := x1.size
  have lk := kk.lt
  refine wpList_boxA 23 (.tmp 1) _ rfl rfl rfl ?_
  simp only [Act.put, List.setIfInBounds_toArray, List.set_cons_succ, List.set_cons_zero]
  intro w2 bp hp x2 kp
  have X2 := Ext.trans X1 x2
  have z2 := x2.size
  replace kk := kk.ext x2
  have lp := kp.lt
  refine wpList_val (v := .bool false) rfl rfl ?_
  simp only [Act.put, List.setIfInBounds_toArray, List.set_cons_succ, List.set_cons_zero]
  refine wp_next (wp_seq ?_)
  refine wp_region_det mixed (by kernel_rfl) ?_
  refine wpDet_loadA arrS (.tmp 2) bk _ kk (size_cellsF _ _) rfl rfl rfl ?_
  simp only [Act.put, List.setIfInBounds_toArray, List.set_cons_succ, List.set_cons_zero]
  refine wpDet_loadA arrK (.tmp 3) bp _ kp (size_cellsF _ _) rfl rfl rfl ?_
  simp only [Act.put, List.setIfInBounds_toArray, List.set_cons_succ, List.set_cons_zero]
  refine wpDet_call (.agg (cellsF 256 (ints .i64 (fun i => f i % 3329)))) _ _ Tryd.func9 (by kernel_rfl) (by kernel_rfl) rfl rfl (fun w _ => of_any f w hf) ?_
  simp only [Act.put, List.setIfInBounds_toArray, List.set_cons_succ, List.set_cons_zero]
  refine wpDet_eql intS (.tmp 5) (.tmp 7) _ (g) (fun i => f i % 3329) true (eq_dec h) rfl rfl rfl rfl ?_
  simp only [Act.put, List.setIfInBounds_toArray, List.set_cons_succ, List.set_cons_zero]
  refine wpDet_assign (.tmp 8) rfl rfl ?_
  simp only [Act.put, List.setIfInBounds_toArray, List.set_cons_succ, List.set_cons_zero]
  intro w3 x3
  have X3 := Ext.trans X2 x3
  have z3 := x3.size
  replace kk := kk.ext x3
  replace kp := kp.ext x3
  refine wp_ret ?_
  go_ret
  exact ⟨rfl, X3⟩

set_option maxRecDepth 100000 in
theorem normal_any (f : Nat → Int) (w : World) (hf : ∀ i, i < 256 → -32768 ≤ f i ∧ f i ≤ 32767) : Calls Tryd.prog 4 #[.agg (cellsF 256 (ints .i16 f))] w fun e w' => e = .returned (.bool (forallB 256 fun i => 0 ≤ f i ∧ f i < 3329)) ∧ Ext w w' := by
  go_enter Tryd.func4, Tryd.ntmps4
  refine wp_region_then ?_
  refine wpList_boxA 23 (.tmp 0) _ rfl rfl rfl ?_
  simp only [Act.put, List.setIfInBounds_toArray, List.set_cons_succ, List.set_cons_zero]
  intro w1 bp hp x1 kp
  have X1 := Ext.trans (Ext.refl w) x1
  have z1 := x1.size
  have lp := kp.lt
  refine wpList_val (v := .bool false) rfl rfl ?_
  simp only [Act.put, List.setIfInBounds_toArray, List.set_cons_succ, List.set_cons_zero]
  refine wp_next (wp_seq (wp_region_then ?_))
  refine wpList_loadA arrK (.tmp 1) bp _ kp (size_cellsF _ _) rfl rfl rfl ?_
  simp only [Act.put, List.setIfInBounds_toArray, List.set_cons_succ, List.set_cons_zero]
  refine wpList_val (v := .int .i64 0) rfl rfl ?_
  simp only [Act.put, List.setIfInBounds_toArray, List.set_cons_succ, List.set_cons_zero]
  refine wp_next ?_
  have hix : ∀ (j : Nat), j < 256 → ∀ wz, (Instr.index 23 (.agg (cellsF 256 (ints .i16 f))) (.int .i64 (j : Int))).run Tryd.prog wz = .ok (.int .i16 (f j)) wz := fun j hj wz => run_index intK _ j hj
  have HX := Lib.hid X1
  clear X1 x1
  go_wp2_with fail
  go_loop [6] (fun i => ∃ j : Nat, j ≤ 256 ∧ i = .int .i64 j ∧ Hid (∀ i, i < j → 0 ≤ f i ∧ f i < 3329)) (fun i => 256 - (intOf i).toNat)
  case atStart => exact ⟨0, by omega, rfl, Lib.hid (fun i hi => by omega)⟩
  case round =>
    obtain ⟨j, hj, rfl, hall⟩ := hrel
    by_cases hjl : j < 256
    · have h1 := hix j hjl
      obtain ⟨q1, q2⟩ := hf j hjl
      have HF := Lib.hid hf
      clear hix hf
      by_cases c1 : f j < 0
      · have d1 : decide (f j < 0) = true := by simpa using c1
        go_wp2_with fail
        go_ret
        exact ⟨by rw [forallB_false j hjl (by omega)]; rfl, HX.out⟩
      · by_cases c2 : 3329 ≤ f j
        · skip
          go_wp2_with fail
          go_ret
          exact ⟨by rw [forallB_false j hjl (by omega)]; rfl, HX.out⟩
        · skip
          go_wp2_with fail
          go_round
          case rel => exact ⟨j + 1, by omega, by go_num, Lib.hid fun i hi => by
            by_cases e : i = j
            · subst e; omega
            · exact hall.out i (by omega)⟩
          case measure => simp [intOf]; omega
    · have hj' : j = 256 := by omega
      subst hj'
      clear hix hf
      go_wp2_with fail
      go_ret
      exact ⟨by rw [forallB_true hall.out]; rfl, HX.out⟩


set_option maxRecDepth 100000 in
theorem within_any (f : Nat → Int) (n : Int) (w : World) (hf : ∀ i, i < 256 → -32768 ≤ f i ∧ f i ≤ 32767) (hn : 0 ≤ n ∧ n ≤ 1000000) : Calls Tryd.prog 8 #[.agg (cellsF 256 (ints .i16 f)), .int .i64 n] w fun e w' => e = .returned (.bool (forallB 256 fun i => -n ≤ f i ∧ f i ≤ n)) ∧ Ext w w' := by
  go_enter Tryd.func8, Tryd.ntmps8
  refine wp_region_then ?_
  refine wpList_boxA 23 (.tmp 0) _ rfl rfl rfl ?_
  simp only [Act.put, List.setIfInBounds_toArray, List.set_cons_succ, List.set_cons_zero]
  intro w1 bp hp x1 kp
  have X1 := Ext.trans (Ext.refl w) x1
  have z1 := x1.size
  have lp := kp.lt
  refine wpList_val (v := .bool false) rfl rfl ?_
  simp only [Act.put, List.setIfInBounds_toArray, List.set_cons_succ, List.set_cons_zero]
  refine wp_next (wp_seq (wp_region_then ?_))
  refine wpList_loadA arrK (.tmp 2) bp _ kp (size_cellsF _ _) rfl rfl rfl ?_
  simp only [Act.put, List.setIfInBounds_toArray, List.set_cons_succ, List.set_cons_zero]
  refine wpList_val (v := .int .i64 0) rfl rfl ?_
  simp only [Act.put, List.setIfInBounds_toArray, List.set_cons_succ, List.set_cons_zero]
  refine wp_next ?_
  have hix : ∀ (j : Nat), j < 256 → ∀ wz, (Instr.index 23 (.agg (cellsF 256 (ints .i16 f))) (.int .i64 (j : Int))).run Tryd.prog wz = .ok (.int .i16 (f j)) wz := fun j hj wz => run_index intK _ j hj
  have HX := Lib.hid X1
  clear X1 x1
  obtain ⟨n1, n2⟩ := hn
  go_wp2_with fail
  go_loop [8] (fun i => ∃ j : Nat, j ≤ 256 ∧ i = .int .i64 j ∧ Hid (∀ i, i < j → -n ≤ f i ∧ f i ≤ n)) (fun i => 256 - (intOf i).toNat)
  case atStart => exact ⟨0, by omega, rfl, Lib.hid (fun i hi => by omega)⟩
  case round =>
    obtain ⟨j, hj, rfl, hall⟩ := hrel
    by_cases hjl : j < 256
    · have h1 := hix j hjl
      obtain ⟨q1, q2⟩ := hf j hjl
      have HF := Lib.hid hf
      clear hix hf
      by_cases c1 : f j < -n
      · have d1 : decide (f j < -n) = true := by simpa using c1
        go_wp2_with fail
        go_ret
        exact ⟨by rw [forallB_false j hjl (by omega)]; rfl, HX.out⟩
      · by_cases c2 : n < f j
        · skip
          go_wp2_with fail
          go_ret
          exact ⟨by rw [forallB_false j hjl (by omega)]; rfl, HX.out⟩
        · skip
          go_wp2_with fail
          go_round
          case rel => exact ⟨j + 1, by omega, by go_num, Lib.hid fun i hi => by
            by_cases e : i = j
            · subst e; omega
            · exact hall.out i (by omega)⟩
          case measure => simp [intOf]; omega
    · have hj' : j = 256 := by omega
      subst hj'
      clear hix hf
      go_wp2_with fail
      go_ret
      exact ⟨by rw [forallB_true hall.out]; rfl, HX.out⟩

end Go.Proofs.YtgojphoejmbliaaDoor
