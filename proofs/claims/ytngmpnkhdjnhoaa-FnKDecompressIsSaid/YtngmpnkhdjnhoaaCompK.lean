/- spec.Decompress, K.Compress. -/
import Derived.Test.YtngmpnkhdjnhoaaEncK
import Derived.Test.YtngmpnkhdjnhoaaKSpec
import Derived.Lib.Hide
namespace Go.Proofs.Ytngmpnkhdjnhoaa
open Go Go.Proofs Go.RowKit Go.Kd
set_option linter.unusedSimpArgs false
set_option linter.unusedVariables false

set_option maxRecDepth 100000 in
set_option maxHeartbeats 1000000 in
theorem decomp1_any (l : Nat → Int) (w : World) (hl : ∀ i, i < 256 → 0 ≤ l i ∧ l i ≤ 1) :
    Calls Try.prog 20 #[.agg (cellsF 256 (ints .i64 l)), .int .i64 1] w fun e w' => e = .returned (.agg (cellsF 256 (ints .i64 (fun i => (6658 * l i + 2) / 4)))) ∧ Ext w w' := by
  go_enter Try.func20, Try.ntmps20
  refine wp_region_then ?_
  refine wpList_boxA 29 (.tmp 0) _ rfl rfl rfl ?_
  simp only [Act.put, List.setIfInBounds_toArray, List.set]
  intro w1 bq hq x1 kq
  have X1 := Ext.trans (Ext.refl w) x1
  have z1 := x1.size
  have lq := kq.lt
  refine wpList_allocA 36 _ _ zeroS rfl rfl ?_
  simp only [Act.put, List.setIfInBounds_toArray, List.set]
  intro w2 br hr x2 kr
  have X2 := Ext.trans X1 x2
  have z2 := x2.size
  replace kq := kq.ext x2
  have lr := kr.lt
  refine wp_next (wp_region_then ?_)
  refine wpList_build0 intS _ zeroS rfl rfl ?_
  simp only [Act.put, List.setIfInBounds_toArray, List.set]
  refine wpList_allocA 36 _ _ zeroS rfl rfl ?_
  simp only [Act.put, List.setIfInBounds_toArray, List.set]
  intro w3 bo ho x3 ko
  have X3 := Ext.trans X2 x3
  have z3 := x3.size
  replace kq := kq.ext x3
  replace kr := kr.ext x3
  have lo := ko.lt
  refine wpList_storeA arrS (.tmp 5) (.tmp 8) bo _ (cellsF 256 (ints .i64 fun _ => 0)) ko (size_cellsF _ _) (size_cellsF _ _) (one_cellsF _ _ _) rfl rfl rfl rfl ?_
  simp only [Act.put]
  clear ko
  intro w4 o4 ko
  have X4 := o4.ext X3 (by omega)
  have z4 := o4.size
  replace kq := o4.blk (by omega) kq
  replace kr := o4.blk (by omega) kr
  refine wp_next (wp_seq (wp_region_then ?_))
  refine wpList_loadA arrI (.tmp 2) bq _ kq (size_cellsF _ _) rfl rfl rfl ?_
  simp only [Act.put, List.setIfInBounds_toArray, List.set]
  refine wpList_val (v := .int .i64 0) rfl rfl ?_
  simp only [Act.put, List.setIfInBounds_toArray, List.set]
  refine wp_next ?_
  have hix : ∀ (j : Nat), j < 256 → ∀ wz, (Instr.index 29 (.agg (cellsF 256 (ints .i64 l))) (.int .i64 (j : Int))).run Try.prog wz = .ok (.int .i64 (l j)) wz := fun j hj wz => run_index intI _ j hj
  have hlt : br < bo := by omega
  have hw0 : w.heap.size ≤ bo := by omega
  have hw1 : w.heap.size ≤ br := by omega
  have HX := Lib.hid X4
  clear X1 X2 X3 X4
  go_wp2_with fail
  go_loopw [10] (fun i wr => ∃ j : Nat, j ≤ 256 ∧ i = .int .i64 j ∧ Only bo w4 wr ∧ Blk wr bo 36 (cellsF 256 (upto j (ints .i64 (fun i => (6658 * l i + 2) / 4)) (ints .i64 fun _ => 0)))) (fun i _ => 256 - (intOf i).toNat)
  case atStart => exact ⟨0, by omega, rfl, Only.refl _ _, by rw [upto_zero]; exact ko⟩
  case round =>
    obtain ⟨j, hj, rfl, ho, hbk⟩ := hrel
    by_cases hjl : j < 256
    · have h1 := hix j hjl
      obtain ⟨q1, q2⟩ := hl j hjl
      have ca : wr.cell? ⟨bo, j, none⟩ = some (.int .i64 0) := by have h := hbk.cell hjl; rw [upto_at] at h; exact h
      have fp := hbk.frozen j
      obtain ⟨z, hz⟩ : ∃ z, (6658 * l j + 2) / 4 = z := ⟨_, rfl⟩
      have hfin : z = (6658 * l j + 2) / 4 := hz.symm
      have HF := Lib.hid hfin
      clear hix hl hfin
      go_wp2_with fail
      go_roundw
      case rel =>
        refine ⟨j + 1, by omega, by go_num, ho.setCell _, ?_⟩
        have h1 := Blk.setCell hbk j (ints .i64 (fun i => (6658 * l i + 2) / 4) j)
        rw [upto_set (by rfl)] at h1
        rw [HF.out]
        exact h1
      case measure => simp [intOf]; omega
    · have hj' : j = 256 := by omega
      subst hj'
      rw [upto_all] at hbk
      have kr2 := ho.blk (by omega) kr
      have HO := Lib.hid ho
      clear hix hl ho
      go_wp2_with (first | (refine wpList_loadA arrS (.tmp 5) bo _ hbk (size_cellsF _ _) rfl rfl rfl ?_; simp only [Act.put, List.setIfInBounds_toArray, List.set]) | (refine wpList_storeA arrS (.tmp 4) (.tmp 25) br _ _ kr2 (size_cellsF _ _) (size_cellsF _ _) (one_cellsF _ _ _) rfl rfl rfl rfl ?_; simp only [Act.put]; intro wy oy ky))
      exact bodyPost_cellA arrS rfl br _ ky (size_cellsF _ _) rfl rfl ⟨rfl, oy.ext (HO.out.ext HX.out hw0) hw1⟩

set_option maxRecDepth 100000 in
set_option maxHeartbeats 1000000 in
theorem comp1_any (l : Nat → Int) (w : World) (hl : ∀ i, i < 256 → 0 ≤ l i ∧ l i ≤ 3328) :
    Calls Try.prog 23 #[.agg (cellsF 256 (ints .i64 l)), .int .i64 1] w fun e w' => e = .returned (.agg (cellsF 256 (ints .i64 (fun i => (l i * 4 + 3329) / 6658 % 2)))) ∧ Ext w w' := by
  go_enter Try.func23, Try.ntmps23
  refine wp_region_then ?_
  refine wpList_boxA 36 (.tmp 0) _ rfl rfl rfl ?_
  simp only [Act.put, List.setIfInBounds_toArray, List.set]
  intro w1 bq hq x1 kq
  have X1 := Ext.trans (Ext.refl w) x1
  have z1 := x1.size
  have lq := kq.lt
  refine wpList_allocA 29 _ _ zeroI rfl rfl ?_
  simp only [Act.put, List.setIfInBounds_toArray, List.set]
  intro w2 br hr x2 kr
  have X2 := Ext.trans X1 x2
  have z2 := x2.size
  replace kq := kq.ext x2
  have lr := kr.lt
  refine wp_next (wp_region_then ?_)
  refine wpList_build0 intI _ zeroI rfl rfl ?_
  simp only [Act.put, List.setIfInBounds_toArray, List.set]
  refine wpList_allocA 29 _ _ zeroI rfl rfl ?_
  simp only [Act.put, List.setIfInBounds_toArray, List.set]
  intro w3 bo ho x3 ko
  have X3 := Ext.trans X2 x3
  have z3 := x3.size
  replace kq := kq.ext x3
  replace kr := kr.ext x3
  have lo := ko.lt
  refine wpList_storeA arrI (.tmp 5) (.tmp 8) bo _ (cellsF 256 (ints .i64 fun _ => 0)) ko (size_cellsF _ _) (size_cellsF _ _) (one_cellsF _ _ _) rfl rfl rfl rfl ?_
  simp only [Act.put]
  clear ko
  intro w4 o4 ko
  have X4 := o4.ext X3 (by omega)
  have z4 := o4.size
  replace kq := o4.blk (by omega) kq
  replace kr := o4.blk (by omega) kr
  refine wp_next (wp_seq (wp_region_then ?_))
  refine wpList_loadA arrS (.tmp 2) bq _ kq (size_cellsF _ _) rfl rfl rfl ?_
  simp only [Act.put, List.setIfInBounds_toArray, List.set]
  refine wpList_val (v := .int .i64 0) rfl rfl ?_
  simp only [Act.put, List.setIfInBounds_toArray, List.set]
  refine wp_next ?_
  have hix : ∀ (j : Nat), j < 256 → ∀ wz, (Instr.index 36 (.agg (cellsF 256 (ints .i64 l))) (.int .i64 (j : Int))).run Try.prog wz = .ok (.int .i64 (l j)) wz := fun j hj wz => run_index intS _ j hj
  have hlt : br < bo := by omega
  have hw0 : w.heap.size ≤ bo := by omega
  have hw1 : w.heap.size ≤ br := by omega
  have HX := Lib.hid X4
  clear X1 X2 X3 X4
  go_wp2_with fail
  go_loopw [10] (fun i wr => ∃ j : Nat, j ≤ 256 ∧ i = .int .i64 j ∧ Only bo w4 wr ∧ Blk wr bo 29 (cellsF 256 (upto j (ints .i64 (fun i => (l i * 4 + 3329) / 6658 % 2)) (ints .i64 fun _ => 0)))) (fun i _ => 256 - (intOf i).toNat)
  case atStart => exact ⟨0, by omega, rfl, Only.refl _ _, by rw [upto_zero]; exact ko⟩
  case round =>
    obtain ⟨j, hj, rfl, ho, hbk⟩ := hrel
    by_cases hjl : j < 256
    · have h1 := hix j hjl
      obtain ⟨q1, q2⟩ := hl j hjl
      have ca : wr.cell? ⟨bo, j, none⟩ = some (.int .i64 0) := by have h := hbk.cell hjl; rw [upto_at] at h; exact h
      have fp := hbk.frozen j
      obtain ⟨y, hy⟩ : ∃ y, (l j * 4 + 3329) / 6658 = y := ⟨_, rfl⟩
      obtain ⟨z, hz⟩ : ∃ z, y % 2 = z := ⟨_, rfl⟩
      have htd : (l j * 4 + 3329).tdiv 6658 = y := by rw [Int.tdiv_eq_ediv_of_nonneg (by omega)]; exact hy
      have htw : IntKind.i64.wrap y = y := by rw [IntKind.wrap_i64]; omega
      have htm : y.tmod 2 = z := by rw [Int.tmod_eq_emod_of_nonneg (by omega)]; exact hz
      have c1 : IntKind.i64.wrap 2 = 2 := by decide
      have c2 : IntKind.i64.wrap 2 = 2 := by decide
      have c3 : IntKind.i64.wrap (l j * 4) = l j * 4 := by rw [IntKind.wrap_i64]; omega
      have c4 : IntKind.i64.wrap (l j * 4 + 3329) = l j * 4 + 3329 := by rw [IntKind.wrap_i64]; omega
      have hfin : z = (l j * 4 + 3329) / 6658 % 2 := by rw [hy, hz]
      have HF := Lib.hid hfin
      clear hix hl hfin hy hz
      go_wp2_with fail
      go_still_tail 11, mixed
      go_wp2_with fail
      go_roundw
      case rel =>
        refine ⟨j + 1, by omega, by go_num, (ho.drew).setCell _, ?_⟩
        have h1 := Blk.setCell (hbk.drew) j (ints .i64 (fun i => (l i * 4 + 3329) / 6658 % 2) j)
        rw [upto_set (by rfl)] at h1
        rw [HF.out]
        exact h1
      case measure => simp [intOf]; omega
    · have hj' : j = 256 := by omega
      subst hj'
      rw [upto_all] at hbk
      have kr2 := ho.blk (by omega) kr
      have HO := Lib.hid ho
      clear hix hl ho
      go_wp2_with (first | (refine wpList_loadA arrI (.tmp 5) bo _ hbk (size_cellsF _ _) rfl rfl rfl ?_; simp only [Act.put, List.setIfInBounds_toArray, List.set]) | (refine wpList_storeA arrI (.tmp 4) (.tmp 26) br _ _ kr2 (size_cellsF _ _) (size_cellsF _ _) (one_cellsF _ _ _) rfl rfl rfl rfl ?_; simp only [Act.put]; intro wy oy ky))
      exact bodyPost_cellA arrI rfl br _ ky (size_cellsF _ _) rfl rfl ⟨rfl, oy.ext (HO.out.ext HX.out hw0) hw1⟩

set_option maxRecDepth 100000 in
set_option maxHeartbeats 1000000 in
theorem decomp4_any (l : Nat → Int) (w : World) (hl : ∀ i, i < 256 → 0 ≤ l i ∧ l i ≤ 15) :
    Calls Try.prog 20 #[.agg (cellsF 256 (ints .i64 l)), .int .i64 4] w fun e w' => e = .returned (.agg (cellsF 256 (ints .i64 (fun i => (6658 * l i + 16) / 32)))) ∧ Ext w w' := by
  go_enter Try.func20, Try.ntmps20
  refine wp_region_then ?_
  refine wpList_boxA 29 (.tmp 0) _ rfl rfl rfl ?_
  simp only [Act.put, List.setIfInBounds_toArray, List.set]
  intro w1 bq hq x1 kq
  have X1 := Ext.trans (Ext.refl w) x1
  have z1 := x1.size
  have lq := kq.lt
  refine wpList_allocA 36 _ _ zeroS rfl rfl ?_
  simp only [Act.put, List.setIfInBounds_toArray, List.set]
  intro w2 br hr x2 kr
  have X2 := Ext.trans X1 x2
  have z2 := x2.size
  replace kq := kq.ext x2
  have lr := kr.lt
  refine wp_next (wp_region_then ?_)
  refine wpList_build0 intS _ zeroS rfl rfl ?_
  simp only [Act.put, List.setIfInBounds_toArray, List.set]
  refine wpList_allocA 36 _ _ zeroS rfl rfl ?_
  simp only [Act.put, List.setIfInBounds_toArray, List.set]
  intro w3 bo ho x3 ko
  have X3 := Ext.trans X2 x3
  have z3 := x3.size
  replace kq := kq.ext x3
  replace kr := kr.ext x3
  have lo := ko.lt
  refine wpList_storeA arrS (.tmp 5) (.tmp 8) bo _ (cellsF 256 (ints .i64 fun _ => 0)) ko (size_cellsF _ _) (size_cellsF _ _) (one_cellsF _ _ _) rfl rfl rfl rfl ?_
  simp only [Act.put]
  clear ko
  intro w4 o4 ko
  have X4 := o4.ext X3 (by omega)
  have z4 := o4.size
  replace kq := o4.blk (by omega) kq
  replace kr := o4.blk (by omega) kr
  refine wp_next (wp_seq (wp_region_then ?_))
  refine wpList_loadA arrI (.tmp 2) bq _ kq (size_cellsF _ _) rfl rfl rfl ?_
  simp only [Act.put, List.setIfInBounds_toArray, List.set]
  refine wpList_val (v := .int .i64 0) rfl rfl ?_
  simp only [Act.put, List.setIfInBounds_toArray, List.set]
  refine wp_next ?_
  have hix : ∀ (j : Nat), j < 256 → ∀ wz, (Instr.index 29 (.agg (cellsF 256 (ints .i64 l))) (.int .i64 (j : Int))).run Try.prog wz = .ok (.int .i64 (l j)) wz := fun j hj wz => run_index intI _ j hj
  have hlt : br < bo := by omega
  have hw0 : w.heap.size ≤ bo := by omega
  have hw1 : w.heap.size ≤ br := by omega
  have HX := Lib.hid X4
  clear X1 X2 X3 X4
  go_wp2_with fail
  go_loopw [10] (fun i wr => ∃ j : Nat, j ≤ 256 ∧ i = .int .i64 j ∧ Only bo w4 wr ∧ Blk wr bo 36 (cellsF 256 (upto j (ints .i64 (fun i => (6658 * l i + 16) / 32)) (ints .i64 fun _ => 0)))) (fun i _ => 256 - (intOf i).toNat)
  case atStart => exact ⟨0, by omega, rfl, Only.refl _ _, by rw [upto_zero]; exact ko⟩
  case round =>
    obtain ⟨j, hj, rfl, ho, hbk⟩ := hrel
    by_cases hjl : j < 256
    · have h1 := hix j hjl
      obtain ⟨q1, q2⟩ := hl j hjl
      have ca : wr.cell? ⟨bo, j, none⟩ = some (.int .i64 0) := by have h := hbk.cell hjl; rw [upto_at] at h; exact h
      have fp := hbk.frozen j
      obtain ⟨z, hz⟩ : ∃ z, (6658 * l j + 16) / 32 = z := ⟨_, rfl⟩
      have hfin : z = (6658 * l j + 16) / 32 := hz.symm
      have HF := Lib.hid hfin
      clear hix hl hfin
      go_wp2_with fail
      go_roundw
      case rel =>
        refine ⟨j + 1, by omega, by go_num, ho.setCell _, ?_⟩
        have h1 := Blk.setCell hbk j (ints .i64 (fun i => (6658 * l i + 16) / 32) j)
        rw [upto_set (by rfl)] at h1
        rw [HF.out]
        exact h1
      case measure => simp [intOf]; omega
    · have hj' : j = 256 := by omega
      subst hj'
      rw [upto_all] at hbk
      have kr2 := ho.blk (by omega) kr
      have HO := Lib.hid ho
      clear hix hl ho
      go_wp2_with (first | (refine wpList_loadA arrS (.tmp 5) bo _ hbk (size_cellsF _ _) rfl rfl rfl ?_; simp only [Act.put, List.setIfInBounds_toArray, List.set]) | (refine wpList_storeA arrS (.tmp 4) (.tmp 25) br _ _ kr2 (size_cellsF _ _) (size_cellsF _ _) (one_cellsF _ _ _) rfl rfl rfl rfl ?_; simp only [Act.put]; intro wy oy ky))
      exact bodyPost_cellA arrS rfl br _ ky (size_cellsF _ _) rfl rfl ⟨rfl, oy.ext (HO.out.ext HX.out hw0) hw1⟩

set_option maxRecDepth 100000 in
set_option maxHeartbeats 1000000 in
theorem comp4_any (l : Nat → Int) (w : World) (hl : ∀ i, i < 256 → 0 ≤ l i ∧ l i ≤ 3328) :
    Calls Try.prog 23 #[.agg (cellsF 256 (ints .i64 l)), .int .i64 4] w fun e w' => e = .returned (.agg (cellsF 256 (ints .i64 (fun i => (l i * 32 + 3329) / 6658 % 16)))) ∧ Ext w w' := by
  go_enter Try.func23, Try.ntmps23
  refine wp_region_then ?_
  refine wpList_boxA 36 (.tmp 0) _ rfl rfl rfl ?_
  simp only [Act.put, List.setIfInBounds_toArray, List.set]
  intro w1 bq hq x1 kq
  have X1 := Ext.trans (Ext.refl w) x1
  have z1 := x1.size
  have lq := kq.lt
  refine wpList_allocA 29 _ _ zeroI rfl rfl ?_
  simp only [Act.put, List.setIfInBounds_toArray, List.set]
  intro w2 br hr x2 kr
  have X2 := Ext.trans X1 x2
  have z2 := x2.size
  replace kq := kq.ext x2
  have lr := kr.lt
  refine wp_next (wp_region_then ?_)
  refine wpList_build0 intI _ zeroI rfl rfl ?_
  simp only [Act.put, List.setIfInBounds_toArray, List.set]
  refine wpList_allocA 29 _ _ zeroI rfl rfl ?_
  simp only [Act.put, List.setIfInBounds_toArray, List.set]
  intro w3 bo ho x3 ko
  have X3 := Ext.trans X2 x3
  have z3 := x3.size
  replace kq := kq.ext x3
  replace kr := kr.ext x3
  have lo := ko.lt
  refine wpList_storeA arrI (.tmp 5) (.tmp 8) bo _ (cellsF 256 (ints .i64 fun _ => 0)) ko (size_cellsF _ _) (size_cellsF _ _) (one_cellsF _ _ _) rfl rfl rfl rfl ?_
  simp only [Act.put]
  clear ko
  intro w4 o4 ko
  have X4 := o4.ext X3 (by omega)
  have z4 := o4.size
  replace kq := o4.blk (by omega) kq
  replace kr := o4.blk (by omega) kr
  refine wp_next (wp_seq (wp_region_then ?_))
  refine wpList_loadA arrS (.tmp 2) bq _ kq (size_cellsF _ _) rfl rfl rfl ?_
  simp only [Act.put, List.setIfInBounds_toArray, List.set]
  refine wpList_val (v := .int .i64 0) rfl rfl ?_
  simp only [Act.put, List.setIfInBounds_toArray, List.set]
  refine wp_next ?_
  have hix : ∀ (j : Nat), j < 256 → ∀ wz, (Instr.index 36 (.agg (cellsF 256 (ints .i64 l))) (.int .i64 (j : Int))).run Try.prog wz = .ok (.int .i64 (l j)) wz := fun j hj wz => run_index intS _ j hj
  have hlt : br < bo := by omega
  have hw0 : w.heap.size ≤ bo := by omega
  have hw1 : w.heap.size ≤ br := by omega
  have HX := Lib.hid X4
  clear X1 X2 X3 X4
  go_wp2_with fail
  go_loopw [10] (fun i wr => ∃ j : Nat, j ≤ 256 ∧ i = .int .i64 j ∧ Only bo w4 wr ∧ Blk wr bo 29 (cellsF 256 (upto j (ints .i64 (fun i => (l i * 32 + 3329) / 6658 % 16)) (ints .i64 fun _ => 0)))) (fun i _ => 256 - (intOf i).toNat)
  case atStart => exact ⟨0, by omega, rfl, Only.refl _ _, by rw [upto_zero]; exact ko⟩
  case round =>
    obtain ⟨j, hj, rfl, ho, hbk⟩ := hrel
    by_cases hjl : j < 256
    · have h1 := hix j hjl
      obtain ⟨q1, q2⟩ := hl j hjl
      have ca : wr.cell? ⟨bo, j, none⟩ = some (.int .i64 0) := by have h := hbk.cell hjl; rw [upto_at] at h; exact h
      have fp := hbk.frozen j
      obtain ⟨y, hy⟩ : ∃ y, (l j * 32 + 3329) / 6658 = y := ⟨_, rfl⟩
      obtain ⟨z, hz⟩ : ∃ z, y % 16 = z := ⟨_, rfl⟩
      have htd : (l j * 32 + 3329).tdiv 6658 = y := by rw [Int.tdiv_eq_ediv_of_nonneg (by omega)]; exact hy
      have htw : IntKind.i64.wrap y = y := by rw [IntKind.wrap_i64]; omega
      have htm : y.tmod 16 = z := by rw [Int.tmod_eq_emod_of_nonneg (by omega)]; exact hz
      have c1 : IntKind.i64.wrap 5 = 5 := by decide
      have c2 : IntKind.i64.wrap 16 = 16 := by decide
      have c3 : IntKind.i64.wrap (l j * 32) = l j * 32 := by rw [IntKind.wrap_i64]; omega
      have c4 : IntKind.i64.wrap (l j * 32 + 3329) = l j * 32 + 3329 := by rw [IntKind.wrap_i64]; omega
      have hfin : z = (l j * 32 + 3329) / 6658 % 16 := by rw [hy, hz]
      have HF := Lib.hid hfin
      clear hix hl hfin hy hz
      go_wp2_with fail
      go_still_tail 11, mixed
      go_wp2_with fail
      go_roundw
      case rel =>
        refine ⟨j + 1, by omega, by go_num, (ho.drew).setCell _, ?_⟩
        have h1 := Blk.setCell (hbk.drew) j (ints .i64 (fun i => (l i * 32 + 3329) / 6658 % 16) j)
        rw [upto_set (by rfl)] at h1
        rw [HF.out]
        exact h1
      case measure => simp [intOf]; omega
    · have hj' : j = 256 := by omega
      subst hj'
      rw [upto_all] at hbk
      have kr2 := ho.blk (by omega) kr
      have HO := Lib.hid ho
      clear hix hl ho
      go_wp2_with (first | (refine wpList_loadA arrI (.tmp 5) bo _ hbk (size_cellsF _ _) rfl rfl rfl ?_; simp only [Act.put, List.setIfInBounds_toArray, List.set]) | (refine wpList_storeA arrI (.tmp 4) (.tmp 26) br _ _ kr2 (size_cellsF _ _) (size_cellsF _ _) (one_cellsF _ _ _) rfl rfl rfl rfl ?_; simp only [Act.put]; intro wy oy ky))
      exact bodyPost_cellA arrI rfl br _ ky (size_cellsF _ _) rfl rfl ⟨rfl, oy.ext (HO.out.ext HX.out hw0) hw1⟩

set_option maxRecDepth 100000 in
set_option maxHeartbeats 1000000 in
theorem decomp5_any (l : Nat → Int) (w : World) (hl : ∀ i, i < 256 → 0 ≤ l i ∧ l i ≤ 31) :
    Calls Try.prog 20 #[.agg (cellsF 256 (ints .i64 l)), .int .i64 5] w fun e w' => e = .returned (.agg (cellsF 256 (ints .i64 (fun i => (6658 * l i + 32) / 64)))) ∧ Ext w w' := by
  go_enter Try.func20, Try.ntmps20
  refine wp_region_then ?_
  refine wpList_boxA 29 (.tmp 0) _ rfl rfl rfl ?_
  simp only [Act.put, List.setIfInBounds_toArray, List.set]
  intro w1 bq hq x1 kq
  have X1 := Ext.trans (Ext.refl w) x1
  have z1 := x1.size
  have lq := kq.lt
  refine wpList_allocA 36 _ _ zeroS rfl rfl ?_
  simp only [Act.put, List.setIfInBounds_toArray, List.set]
  intro w2 br hr x2 kr
  have X2 := Ext.trans X1 x2
  have z2 := x2.size
  replace kq := kq.ext x2
  have lr := kr.lt
  refine wp_next (wp_region_then ?_)
  refine wpList_build0 intS _ zeroS rfl rfl ?_
  simp only [Act.put, List.setIfInBounds_toArray, List.set]
  refine wpList_allocA 36 _ _ zeroS rfl rfl ?_
  simp only [Act.put, List.setIfInBounds_toArray, List.set]
  intro w3 bo ho x3 ko
  have X3 := Ext.trans X2 x3
  have z3 := x3.size
  replace kq := kq.ext x3
  replace kr := kr.ext x3
  have lo := ko.lt
  refine wpList_storeA arrS (.tmp 5) (.tmp 8) bo _ (cellsF 256 (ints .i64 fun _ => 0)) ko (size_cellsF _ _) (size_cellsF _ _) (one_cellsF _ _ _) rfl rfl rfl rfl ?_
  simp only [Act.put]
  clear ko
  intro w4 o4 ko
  have X4 := o4.ext X3 (by omega)
  have z4 := o4.size
  replace kq := o4.blk (by omega) kq
  replace kr := o4.blk (by omega) kr
  refine wp_next (wp_seq (wp_region_then ?_))
  refine wpList_loadA arrI (.tmp 2) bq _ kq (size_cellsF _ _) rfl rfl rfl ?_
  simp only [Act.put, List.setIfInBounds_toArray, List.set]
  refine wpList_val (v := .int .i64 0) rfl rfl ?_
  simp only [Act.put, List.setIfInBounds_toArray, List.set]
  refine wp_next ?_
  have hix : ∀ (j : Nat), j < 256 → ∀ wz, (Instr.index 29 (.agg (cellsF 256 (ints .i64 l))) (.int .i64 (j : Int))).run Try.prog wz = .ok (.int .i64 (l j)) wz := fun j hj wz => run_index intI _ j hj
  have hlt : br < bo := by omega
  have hw0 : w.heap.size ≤ bo := by omega
  have hw1 : w.heap.size ≤ br := by omega
  have HX := Lib.hid X4
  clear X1 X2 X3 X4
  go_wp2_with fail
  go_loopw [10] (fun i wr => ∃ j : Nat, j ≤ 256 ∧ i = .int .i64 j ∧ Only bo w4 wr ∧ Blk wr bo 36 (cellsF 256 (upto j (ints .i64 (fun i => (6658 * l i + 32) / 64)) (ints .i64 fun _ => 0)))) (fun i _ => 256 - (intOf i).toNat)
  case atStart => exact ⟨0, by omega, rfl, Only.refl _ _, by rw [upto_zero]; exact ko⟩
  case round =>
    obtain ⟨j, hj, rfl, ho, hbk⟩ := hrel
    by_cases hjl : j < 256
    · have h1 := hix j hjl
      obtain ⟨q1, q2⟩ := hl j hjl
      have ca : wr.cell? ⟨bo, j, none⟩ = some (.int .i64 0) := by have h := hbk.cell hjl; rw [upto_at] at h; exact h
      have fp := hbk.frozen j
      obtain ⟨z, hz⟩ : ∃ z, (6658 * l j + 32) / 64 = z := ⟨_, rfl⟩
      have hfin : z = (6658 * l j + 32) / 64 := hz.symm
      have HF := Lib.hid hfin
      clear hix hl hfin
      go_wp2_with fail
      go_roundw
      case rel =>
        refine ⟨j + 1, by omega, by go_num, ho.setCell _, ?_⟩
        have h1 := Blk.setCell hbk j (ints .i64 (fun i => (6658 * l i + 32) / 64) j)
        rw [upto_set (by rfl)] at h1
        rw [HF.out]
        exact h1
      case measure => simp [intOf]; omega
    · have hj' : j = 256 := by omega
      subst hj'
      rw [upto_all] at hbk
      have kr2 := ho.blk (by omega) kr
      have HO := Lib.hid ho
      clear hix hl ho
      go_wp2_with (first | (refine wpList_loadA arrS (.tmp 5) bo _ hbk (size_cellsF _ _) rfl rfl rfl ?_; simp only [Act.put, List.setIfInBounds_toArray, List.set]) | (refine wpList_storeA arrS (.tmp 4) (.tmp 25) br _ _ kr2 (size_cellsF _ _) (size_cellsF _ _) (one_cellsF _ _ _) rfl rfl rfl rfl ?_; simp only [Act.put]; intro wy oy ky))
      exact bodyPost_cellA arrS rfl br _ ky (size_cellsF _ _) rfl rfl ⟨rfl, oy.ext (HO.out.ext HX.out hw0) hw1⟩

set_option maxRecDepth 100000 in
set_option maxHeartbeats 1000000 in
theorem comp5_any (l : Nat → Int) (w : World) (hl : ∀ i, i < 256 → 0 ≤ l i ∧ l i ≤ 3328) :
    Calls Try.prog 23 #[.agg (cellsF 256 (ints .i64 l)), .int .i64 5] w fun e w' => e = .returned (.agg (cellsF 256 (ints .i64 (fun i => (l i * 64 + 3329) / 6658 % 32)))) ∧ Ext w w' := by
  go_enter Try.func23, Try.ntmps23
  refine wp_region_then ?_
  refine wpList_boxA 36 (.tmp 0) _ rfl rfl rfl ?_
  simp only [Act.put, List.setIfInBounds_toArray, List.set]
  intro w1 bq hq x1 kq
  have X1 := Ext.trans (Ext.refl w) x1
  have z1 := x1.size
  have lq := kq.lt
  refine wpList_allocA 29 _ _ zeroI rfl rfl ?_
  simp only [Act.put, List.setIfInBounds_toArray, List.set]
  intro w2 br hr x2 kr
  have X2 := Ext.trans X1 x2
  have z2 := x2.size
  replace kq := kq.ext x2
  have lr := kr.lt
  refine wp_next (wp_region_then ?_)
  refine wpList_build0 intI _ zeroI rfl rfl ?_
  simp only [Act.put, List.setIfInBounds_toArray, List.set]
  refine wpList_allocA 29 _ _ zeroI rfl rfl ?_
  simp only [Act.put, List.setIfInBounds_toArray, List.set]
  intro w3 bo ho x3 ko
  have X3 := Ext.trans X2 x3
  have z3 := x3.size
  replace kq := kq.ext x3
  replace kr := kr.ext x3
  have lo := ko.lt
  refine wpList_storeA arrI (.tmp 5) (.tmp 8) bo _ (cellsF 256 (ints .i64 fun _ => 0)) ko (size_cellsF _ _) (size_cellsF _ _) (one_cellsF _ _ _) rfl rfl rfl rfl ?_
  simp only [Act.put]
  clear ko
  intro w4 o4 ko
  have X4 := o4.ext X3 (by omega)
  have z4 := o4.size
  replace kq := o4.blk (by omega) kq
  replace kr := o4.blk (by omega) kr
  refine wp_next (wp_seq (wp_region_then ?_))
  refine wpList_loadA arrS (.tmp 2) bq _ kq (size_cellsF _ _) rfl rfl rfl ?_
  simp only [Act.put, List.setIfInBounds_toArray, List.set]
  refine wpList_val (v := .int .i64 0) rfl rfl ?_
  simp only [Act.put, List.setIfInBounds_toArray, List.set]
  refine wp_next ?_
  have hix : ∀ (j : Nat), j < 256 → ∀ wz, (Instr.index 36 (.agg (cellsF 256 (ints .i64 l))) (.int .i64 (j : Int))).run Try.prog wz = .ok (.int .i64 (l j)) wz := fun j hj wz => run_index intS _ j hj
  have hlt : br < bo := by omega
  have hw0 : w.heap.size ≤ bo := by omega
  have hw1 : w.heap.size ≤ br := by omega
  have HX := Lib.hid X4
  clear X1 X2 X3 X4
  go_wp2_with fail
  go_loopw [10] (fun i wr => ∃ j : Nat, j ≤ 256 ∧ i = .int .i64 j ∧ Only bo w4 wr ∧ Blk wr bo 29 (cellsF 256 (upto j (ints .i64 (fun i => (l i * 64 + 3329) / 6658 % 32)) (ints .i64 fun _ => 0)))) (fun i _ => 256 - (intOf i).toNat)
  case atStart => exact ⟨0, by omega, rfl, Only.refl _ _, by rw [upto_zero]; exact ko⟩
  case round =>
    obtain ⟨j, hj, rfl, ho, hbk⟩ := hrel
    by_cases hjl : j < 256
    · have h1 := hix j hjl
      obtain ⟨q1, q2⟩ := hl j hjl
      have ca : wr.cell? ⟨bo, j, none⟩ = some (.int .i64 0) := by have h := hbk.cell hjl; rw [upto_at] at h; exact h
      have fp := hbk.frozen j
      obtain ⟨y, hy⟩ : ∃ y, (l j * 64 + 3329) / 6658 = y := ⟨_, rfl⟩
      obtain ⟨z, hz⟩ : ∃ z, y % 32 = z := ⟨_, rfl⟩
      have htd : (l j * 64 + 3329).tdiv 6658 = y := by rw [Int.tdiv_eq_ediv_of_nonneg (by omega)]; exact hy
      have htw : IntKind.i64.wrap y = y := by rw [IntKind.wrap_i64]; omega
      have htm : y.tmod 32 = z := by rw [Int.tmod_eq_emod_of_nonneg (by omega)]; exact hz
      have c1 : IntKind.i64.wrap 6 = 6 := by decide
      have c2 : IntKind.i64.wrap 32 = 32 := by decide
      have c3 : IntKind.i64.wrap (l j * 64) = l j * 64 := by rw [IntKind.wrap_i64]; omega
      have c4 : IntKind.i64.wrap (l j * 64 + 3329) = l j * 64 + 3329 := by rw [IntKind.wrap_i64]; omega
      have hfin : z = (l j * 64 + 3329) / 6658 % 32 := by rw [hy, hz]
      have HF := Lib.hid hfin
      clear hix hl hfin hy hz
      go_wp2_with fail
      go_still_tail 11, mixed
      go_wp2_with fail
      go_roundw
      case rel =>
        refine ⟨j + 1, by omega, by go_num, (ho.drew).setCell _, ?_⟩
        have h1 := Blk.setCell (hbk.drew) j (ints .i64 (fun i => (l i * 64 + 3329) / 6658 % 32) j)
        rw [upto_set (by rfl)] at h1
        rw [HF.out]
        exact h1
      case measure => simp [intOf]; omega
    · have hj' : j = 256 := by omega
      subst hj'
      rw [upto_all] at hbk
      have kr2 := ho.blk (by omega) kr
      have HO := Lib.hid ho
      clear hix hl ho
      go_wp2_with (first | (refine wpList_loadA arrI (.tmp 5) bo _ hbk (size_cellsF _ _) rfl rfl rfl ?_; simp only [Act.put, List.setIfInBounds_toArray, List.set]) | (refine wpList_storeA arrI (.tmp 4) (.tmp 26) br _ _ kr2 (size_cellsF _ _) (size_cellsF _ _) (one_cellsF _ _ _) rfl rfl rfl rfl ?_; simp only [Act.put]; intro wy oy ky))
      exact bodyPost_cellA arrI rfl br _ ky (size_cellsF _ _) rfl rfl ⟨rfl, oy.ext (HO.out.ext HX.out hw0) hw1⟩

set_option maxRecDepth 100000 in
set_option maxHeartbeats 1000000 in
theorem decomp10_any (l : Nat → Int) (w : World) (hl : ∀ i, i < 256 → 0 ≤ l i ∧ l i ≤ 1023) :
    Calls Try.prog 20 #[.agg (cellsF 256 (ints .i64 l)), .int .i64 10] w fun e w' => e = .returned (.agg (cellsF 256 (ints .i64 (fun i => (6658 * l i + 1024) / 2048)))) ∧ Ext w w' := by
  go_enter Try.func20, Try.ntmps20
  refine wp_region_then ?_
  refine wpList_boxA 29 (.tmp 0) _ rfl rfl rfl ?_
  simp only [Act.put, List.setIfInBounds_toArray, List.set]
  intro w1 bq hq x1 kq
  have X1 := Ext.trans (Ext.refl w) x1
  have z1 := x1.size
  have lq := kq.lt
  refine wpList_allocA 36 _ _ zeroS rfl rfl ?_
  simp only [Act.put, List.setIfInBounds_toArray, List.set]
  intro w2 br hr x2 kr
  have X2 := Ext.trans X1 x2
  have z2 := x2.size
  replace kq := kq.ext x2
  have lr := kr.lt
  refine wp_next (wp_region_then ?_)
  refine wpList_build0 intS _ zeroS rfl rfl ?_
  simp only [Act.put, List.setIfInBounds_toArray, List.set]
  refine wpList_allocA 36 _ _ zeroS rfl rfl ?_
  simp only [Act.put, List.setIfInBounds_toArray, List.set]
  intro w3 bo ho x3 ko
  have X3 := Ext.trans X2 x3
  have z3 := x3.size
  replace kq := kq.ext x3
  replace kr := kr.ext x3
  have lo := ko.lt
  refine wpList_storeA arrS (.tmp 5) (.tmp 8) bo _ (cellsF 256 (ints .i64 fun _ => 0)) ko (size_cellsF _ _) (size_cellsF _ _) (one_cellsF _ _ _) rfl rfl rfl rfl ?_
  simp only [Act.put]
  clear ko
  intro w4 o4 ko
  have X4 := o4.ext X3 (by omega)
  have z4 := o4.size
  replace kq := o4.blk (by omega) kq
  replace kr := o4.blk (by omega) kr
  refine wp_next (wp_seq (wp_region_then ?_))
  refine wpList_loadA arrI (.tmp 2) bq _ kq (size_cellsF _ _) rfl rfl rfl ?_
  simp only [Act.put, List.setIfInBounds_toArray, List.set]
  refine wpList_val (v := .int .i64 0) rfl rfl ?_
  simp only [Act.put, List.setIfInBounds_toArray, List.set]
  refine wp_next ?_
  have hix : ∀ (j : Nat), j < 256 → ∀ wz, (Instr.index 29 (.agg (cellsF 256 (ints .i64 l))) (.int .i64 (j : Int))).run Try.prog wz = .ok (.int .i64 (l j)) wz := fun j hj wz => run_index intI _ j hj
  have hlt : br < bo := by omega
  have hw0 : w.heap.size ≤ bo := by omega
  have hw1 : w.heap.size ≤ br := by omega
  have HX := Lib.hid X4
  clear X1 X2 X3 X4
  go_wp2_with fail
  go_loopw [10] (fun i wr => ∃ j : Nat, j ≤ 256 ∧ i = .int .i64 j ∧ Only bo w4 wr ∧ Blk wr bo 36 (cellsF 256 (upto j (ints .i64 (fun i => (6658 * l i + 1024) / 2048)) (ints .i64 fun _ => 0)))) (fun i _ => 256 - (intOf i).toNat)
  case atStart => exact ⟨0, by omega, rfl, Only.refl _ _, by rw [upto_zero]; exact ko⟩
  case round =>
    obtain ⟨j, hj, rfl, ho, hbk⟩ := hrel
    by_cases hjl : j < 256
    · have h1 := hix j hjl
      obtain ⟨q1, q2⟩ := hl j hjl
      have ca : wr.cell? ⟨bo, j, none⟩ = some (.int .i64 0) := by have h := hbk.cell hjl; rw [upto_at] at h; exact h
      have fp := hbk.frozen j
      obtain ⟨z, hz⟩ : ∃ z, (6658 * l j + 1024) / 2048 = z := ⟨_, rfl⟩
      have hfin : z = (6658 * l j + 1024) / 2048 := hz.symm
      have HF := Lib.hid hfin
      clear hix hl hfin
      go_wp2_with fail
      go_roundw
      case rel =>
        refine ⟨j + 1, by omega, by go_num, ho.setCell _, ?_⟩
        have h1 := Blk.setCell hbk j (ints .i64 (fun i => (6658 * l i + 1024) / 2048) j)
        rw [upto_set (by rfl)] at h1
        rw [HF.out]
        exact h1
      case measure => simp [intOf]; omega
    · have hj' : j = 256 := by omega
      subst hj'
      rw [upto_all] at hbk
      have kr2 := ho.blk (by omega) kr
      have HO := Lib.hid ho
      clear hix hl ho
      go_wp2_with (first | (refine wpList_loadA arrS (.tmp 5) bo _ hbk (size_cellsF _ _) rfl rfl rfl ?_; simp only [Act.put, List.setIfInBounds_toArray, List.set]) | (refine wpList_storeA arrS (.tmp 4) (.tmp 25) br _ _ kr2 (size_cellsF _ _) (size_cellsF _ _) (one_cellsF _ _ _) rfl rfl rfl rfl ?_; simp only [Act.put]; intro wy oy ky))
      exact bodyPost_cellA arrS rfl br _ ky (size_cellsF _ _) rfl rfl ⟨rfl, oy.ext (HO.out.ext HX.out hw0) hw1⟩

set_option maxRecDepth 100000 in
set_option maxHeartbeats 1000000 in
theorem comp10_any (l : Nat → Int) (w : World) (hl : ∀ i, i < 256 → 0 ≤ l i ∧ l i ≤ 3328) :
    Calls Try.prog 23 #[.agg (cellsF 256 (ints .i64 l)), .int .i64 10] w fun e w' => e = .returned (.agg (cellsF 256 (ints .i64 (fun i => (l i * 2048 + 3329) / 6658 % 1024)))) ∧ Ext w w' := by
  go_enter Try.func23, Try.ntmps23
  refine wp_region_then ?_
  refine wpList_boxA 36 (.tmp 0) _ rfl rfl rfl ?_
  simp only [Act.put, List.setIfInBounds_toArray, List.set]
  intro w1 bq hq x1 kq
  have X1 := Ext.trans (Ext.refl w) x1
  have z1 := x1.size
  have lq := kq.lt
  refine wpList_allocA 29 _ _ zeroI rfl rfl ?_
  simp only [Act.put, List.setIfInBounds_toArray, List.set]
  intro w2 br hr x2 kr
  have X2 := Ext.trans X1 x2
  have z2 := x2.size
  replace kq := kq.ext x2
  have lr := kr.lt
  refine wp_next (wp_region_then ?_)
  refine wpList_build0 intI _ zeroI rfl rfl ?_
  simp only [Act.put, List.setIfInBounds_toArray, List.set]
  refine wpList_allocA 29 _ _ zeroI rfl rfl ?_
  simp only [Act.put, List.setIfInBounds_toArray, List.set]
  intro w3 bo ho x3 ko
  have X3 := Ext.trans X2 x3
  have z3 := x3.size
  replace kq := kq.ext x3
  replace kr := kr.ext x3
  have lo := ko.lt
  refine wpList_storeA arrI (.tmp 5) (.tmp 8) bo _ (cellsF 256 (ints .i64 fun _ => 0)) ko (size_cellsF _ _) (size_cellsF _ _) (one_cellsF _ _ _) rfl rfl rfl rfl ?_
  simp only [Act.put]
  clear ko
  intro w4 o4 ko
  have X4 := o4.ext X3 (by omega)
  have z4 := o4.size
  replace kq := o4.blk (by omega) kq
  replace kr := o4.blk (by omega) kr
  refine wp_next (wp_seq (wp_region_then ?_))
  refine wpList_loadA arrS (.tmp 2) bq _ kq (size_cellsF _ _) rfl rfl rfl ?_
  simp only [Act.put, List.setIfInBounds_toArray, List.set]
  refine wpList_val (v := .int .i64 0) rfl rfl ?_
  simp only [Act.put, List.setIfInBounds_toArray, List.set]
  refine wp_next ?_
  have hix : ∀ (j : Nat), j < 256 → ∀ wz, (Instr.index 36 (.agg (cellsF 256 (ints .i64 l))) (.int .i64 (j : Int))).run Try.prog wz = .ok (.int .i64 (l j)) wz := fun j hj wz => run_index intS _ j hj
  have hlt : br < bo := by omega
  have hw0 : w.heap.size ≤ bo := by omega
  have hw1 : w.heap.size ≤ br := by omega
  have HX := Lib.hid X4
  clear X1 X2 X3 X4
  go_wp2_with fail
  go_loopw [10] (fun i wr => ∃ j : Nat, j ≤ 256 ∧ i = .int .i64 j ∧ Only bo w4 wr ∧ Blk wr bo 29 (cellsF 256 (upto j (ints .i64 (fun i => (l i * 2048 + 3329) / 6658 % 1024)) (ints .i64 fun _ => 0)))) (fun i _ => 256 - (intOf i).toNat)
  case atStart => exact ⟨0, by omega, rfl, Only.refl _ _, by rw [upto_zero]; exact ko⟩
  case round =>
    obtain ⟨j, hj, rfl, ho, hbk⟩ := hrel
    by_cases hjl : j < 256
    · have h1 := hix j hjl
      obtain ⟨q1, q2⟩ := hl j hjl
      have ca : wr.cell? ⟨bo, j, none⟩ = some (.int .i64 0) := by have h := hbk.cell hjl; rw [upto_at] at h; exact h
      have fp := hbk.frozen j
      obtain ⟨y, hy⟩ : ∃ y, (l j * 2048 + 3329) / 6658 = y := ⟨_, rfl⟩
      obtain ⟨z, hz⟩ : ∃ z, y % 1024 = z := ⟨_, rfl⟩
      have htd : (l j * 2048 + 3329).tdiv 6658 = y := by rw [Int.tdiv_eq_ediv_of_nonneg (by omega)]; exact hy
      have htw : IntKind.i64.wrap y = y := by rw [IntKind.wrap_i64]; omega
      have htm : y.tmod 1024 = z := by rw [Int.tmod_eq_emod_of_nonneg (by omega)]; exact hz
      have c1 : IntKind.i64.wrap 11 = 11 := by decide
      have c2 : IntKind.i64.wrap 1024 = 1024 := by decide
      have c3 : IntKind.i64.wrap (l j * 2048) = l j * 2048 := by rw [IntKind.wrap_i64]; omega
      have c4 : IntKind.i64.wrap (l j * 2048 + 3329) = l j * 2048 + 3329 := by rw [IntKind.wrap_i64]; omega
      have hfin : z = (l j * 2048 + 3329) / 6658 % 1024 := by rw [hy, hz]
      have HF := Lib.hid hfin
      clear hix hl hfin hy hz
      go_wp2_with fail
      go_still_tail 11, mixed
      go_wp2_with fail
      go_roundw
      case rel =>
        refine ⟨j + 1, by omega, by go_num, (ho.drew).setCell _, ?_⟩
        have h1 := Blk.setCell (hbk.drew) j (ints .i64 (fun i => (l i * 2048 + 3329) / 6658 % 1024) j)
        rw [upto_set (by rfl)] at h1
        rw [HF.out]
        exact h1
      case measure => simp [intOf]; omega
    · have hj' : j = 256 := by omega
      subst hj'
      rw [upto_all] at hbk
      have kr2 := ho.blk (by omega) kr
      have HO := Lib.hid ho
      clear hix hl ho
      go_wp2_with (first | (refine wpList_loadA arrI (.tmp 5) bo _ hbk (size_cellsF _ _) rfl rfl rfl ?_; simp only [Act.put, List.setIfInBounds_toArray, List.set]) | (refine wpList_storeA arrI (.tmp 4) (.tmp 26) br _ _ kr2 (size_cellsF _ _) (size_cellsF _ _) (one_cellsF _ _ _) rfl rfl rfl rfl ?_; simp only [Act.put]; intro wy oy ky))
      exact bodyPost_cellA arrI rfl br _ ky (size_cellsF _ _) rfl rfl ⟨rfl, oy.ext (HO.out.ext HX.out hw0) hw1⟩

set_option maxRecDepth 100000 in
set_option maxHeartbeats 1000000 in
theorem decomp11_any (l : Nat → Int) (w : World) (hl : ∀ i, i < 256 → 0 ≤ l i ∧ l i ≤ 2047) :
    Calls Try.prog 20 #[.agg (cellsF 256 (ints .i64 l)), .int .i64 11] w fun e w' => e = .returned (.agg (cellsF 256 (ints .i64 (fun i => (6658 * l i + 2048) / 4096)))) ∧ Ext w w' := by
  go_enter Try.func20, Try.ntmps20
  refine wp_region_then ?_
  refine wpList_boxA 29 (.tmp 0) _ rfl rfl rfl ?_
  simp only [Act.put, List.setIfInBounds_toArray, List.set]
  intro w1 bq hq x1 kq
  have X1 := Ext.trans (Ext.refl w) x1
  have z1 := x1.size
  have lq := kq.lt
  refine wpList_allocA 36 _ _ zeroS rfl rfl ?_
  simp only [Act.put, List.setIfInBounds_toArray, List.set]
  intro w2 br hr x2 kr
  have X2 := Ext.trans X1 x2
  have z2 := x2.size
  replace kq := kq.ext x2
  have lr := kr.lt
  refine wp_next (wp_region_then ?_)
  refine wpList_build0 intS _ zeroS rfl rfl ?_
  simp only [Act.put, List.setIfInBounds_toArray, List.set]
  refine wpList_allocA 36 _ _ zeroS rfl rfl ?_
  simp only [Act.put, List.setIfInBounds_toArray, List.set]
  intro w3 bo ho x3 ko
  have X3 := Ext.trans X2 x3
  have z3 := x3.size
  replace kq := kq.ext x3
  replace kr := kr.ext x3
  have lo := ko.lt
  refine wpList_storeA arrS (.tmp 5) (.tmp 8) bo _ (cellsF 256 (ints .i64 fun _ => 0)) ko (size_cellsF _ _) (size_cellsF _ _) (one_cellsF _ _ _) rfl rfl rfl rfl ?_
  simp only [Act.put]
  clear ko
  intro w4 o4 ko
  have X4 := o4.ext X3 (by omega)
  have z4 := o4.size
  replace kq := o4.blk (by omega) kq
  replace kr := o4.blk (by omega) kr
  refine wp_next (wp_seq (wp_region_then ?_))
  refine wpList_loadA arrI (.tmp 2) bq _ kq (size_cellsF _ _) rfl rfl rfl ?_
  simp only [Act.put, List.setIfInBounds_toArray, List.set]
  refine wpList_val (v := .int .i64 0) rfl rfl ?_
  simp only [Act.put, List.setIfInBounds_toArray, List.set]
  refine wp_next ?_
  have hix : ∀ (j : Nat), j < 256 → ∀ wz, (Instr.index 29 (.agg (cellsF 256 (ints .i64 l))) (.int .i64 (j : Int))).run Try.prog wz = .ok (.int .i64 (l j)) wz := fun j hj wz => run_index intI _ j hj
  have hlt : br < bo := by omega
  have hw0 : w.heap.size ≤ bo := by omega
  have hw1 : w.heap.size ≤ br := by omega
  have HX := Lib.hid X4
  clear X1 X2 X3 X4
  go_wp2_with fail
  go_loopw [10] (fun i wr => ∃ j : Nat, j ≤ 256 ∧ i = .int .i64 j ∧ Only bo w4 wr ∧ Blk wr bo 36 (cellsF 256 (upto j (ints .i64 (fun i => (6658 * l i + 2048) / 4096)) (ints .i64 fun _ => 0)))) (fun i _ => 256 - (intOf i).toNat)
  case atStart => exact ⟨0, by omega, rfl, Only.refl _ _, by rw [upto_zero]; exact ko⟩
  case round =>
    obtain ⟨j, hj, rfl, ho, hbk⟩ := hrel
    by_cases hjl : j < 256
    · have h1 := hix j hjl
      obtain ⟨q1, q2⟩ := hl j hjl
      have ca : wr.cell? ⟨bo, j, none⟩ = some (.int .i64 0) := by have h := hbk.cell hjl; rw [upto_at] at h; exact h
      have fp := hbk.frozen j
      obtain ⟨z, hz⟩ : ∃ z, (6658 * l j + 2048) / 4096 = z := ⟨_, rfl⟩
      have hfin : z = (6658 * l j + 2048) / 4096 := hz.symm
      have HF := Lib.hid hfin
      clear hix hl hfin
      go_wp2_with fail
      go_roundw
      case rel =>
        refine ⟨j + 1, by omega, by go_num, ho.setCell _, ?_⟩
        have h1 := Blk.setCell hbk j (ints .i64 (fun i => (6658 * l i + 2048) / 4096) j)
        rw [upto_set (by rfl)] at h1
        rw [HF.out]
        exact h1
      case measure => simp [intOf]; omega
    · have hj' : j = 256 := by omega
      subst hj'
      rw [upto_all] at hbk
      have kr2 := ho.blk (by omega) kr
      have HO := Lib.hid ho
      clear hix hl ho
      go_wp2_with (first | (refine wpList_loadA arrS (.tmp 5) bo _ hbk (size_cellsF _ _) rfl rfl rfl ?_; simp only [Act.put, List.setIfInBounds_toArray, List.set]) | (refine wpList_storeA arrS (.tmp 4) (.tmp 25) br _ _ kr2 (size_cellsF _ _) (size_cellsF _ _) (one_cellsF _ _ _) rfl rfl rfl rfl ?_; simp only [Act.put]; intro wy oy ky))
      exact bodyPost_cellA arrS rfl br _ ky (size_cellsF _ _) rfl rfl ⟨rfl, oy.ext (HO.out.ext HX.out hw0) hw1⟩

set_option maxRecDepth 100000 in
set_option maxHeartbeats 1000000 in
theorem comp11_any (l : Nat → Int) (w : World) (hl : ∀ i, i < 256 → 0 ≤ l i ∧ l i ≤ 3328) :
    Calls Try.prog 23 #[.agg (cellsF 256 (ints .i64 l)), .int .i64 11] w fun e w' => e = .returned (.agg (cellsF 256 (ints .i64 (fun i => (l i * 4096 + 3329) / 6658 % 2048)))) ∧ Ext w w' := by
  go_enter Try.func23, Try.ntmps23
  refine wp_region_then ?_
  refine wpList_boxA 36 (.tmp 0) _ rfl rfl rfl ?_
  simp only [Act.put, List.setIfInBounds_toArray, List.set]
  intro w1 bq hq x1 kq
  have X1 := Ext.trans (Ext.refl w) x1
  have z1 := x1.size
  have lq := kq.lt
  refine wpList_allocA 29 _ _ zeroI rfl rfl ?_
  simp only [Act.put, List.setIfInBounds_toArray, List.set]
  intro w2 br hr x2 kr
  have X2 := Ext.trans X1 x2
  have z2 := x2.size
  replace kq := kq.ext x2
  have lr := kr.lt
  refine wp_next (wp_region_then ?_)
  refine wpList_build0 intI _ zeroI rfl rfl ?_
  simp only [Act.put, List.setIfInBounds_toArray, List.set]
  refine wpList_allocA 29 _ _ zeroI rfl rfl ?_
  simp only [Act.put, List.setIfInBounds_toArray, List.set]
  intro w3 bo ho x3 ko
  have X3 := Ext.trans X2 x3
  have z3 := x3.size
  replace kq := kq.ext x3
  replace kr := kr.ext x3
  have lo := ko.lt
  refine wpList_storeA arrI (.tmp 5) (.tmp 8) bo _ (cellsF 256 (ints .i64 fun _ => 0)) ko (size_cellsF _ _) (size_cellsF _ _) (one_cellsF _ _ _) rfl rfl rfl rfl ?_
  simp only [Act.put]
  clear ko
  intro w4 o4 ko
  have X4 := o4.ext X3 (by omega)
  have z4 := o4.size
  replace kq := o4.blk (by omega) kq
  replace kr := o4.blk (by omega) kr
  refine wp_next (wp_seq (wp_region_then ?_))
  refine wpList_loadA arrS (.tmp 2) bq _ kq (size_cellsF _ _) rfl rfl rfl ?_
  simp only [Act.put, List.setIfInBounds_toArray, List.set]
  refine wpList_val (v := .int .i64 0) rfl rfl ?_
  simp only [Act.put, List.setIfInBounds_toArray, List.set]
  refine wp_next ?_
  have hix : ∀ (j : Nat), j < 256 → ∀ wz, (Instr.index 36 (.agg (cellsF 256 (ints .i64 l))) (.int .i64 (j : Int))).run Try.prog wz = .ok (.int .i64 (l j)) wz := fun j hj wz => run_index intS _ j hj
  have hlt : br < bo := by omega
  have hw0 : w.heap.size ≤ bo := by omega
  have hw1 : w.heap.size ≤ br := by omega
  have HX := Lib.hid X4
  clear X1 X2 X3 X4
  go_wp2_with fail
  go_loopw [10] (fun i wr => ∃ j : Nat, j ≤ 256 ∧ i = .int .i64 j ∧ Only bo w4 wr ∧ Blk wr bo 29 (cellsF 256 (upto j (ints .i64 (fun i => (l i * 4096 + 3329) / 6658 % 2048)) (ints .i64 fun _ => 0)))) (fun i _ => 256 - (intOf i).toNat)
  case atStart => exact ⟨0, by omega, rfl, Only.refl _ _, by rw [upto_zero]; exact ko⟩
  case round =>
    obtain ⟨j, hj, rfl, ho, hbk⟩ := hrel
    by_cases hjl : j < 256
    · have h1 := hix j hjl
      obtain ⟨q1, q2⟩ := hl j hjl
      have ca : wr.cell? ⟨bo, j, none⟩ = some (.int .i64 0) := by have h := hbk.cell hjl; rw [upto_at] at h; exact h
      have fp := hbk.frozen j
      obtain ⟨y, hy⟩ : ∃ y, (l j * 4096 + 3329) / 6658 = y := ⟨_, rfl⟩
      obtain ⟨z, hz⟩ : ∃ z, y % 2048 = z := ⟨_, rfl⟩
      have htd : (l j * 4096 + 3329).tdiv 6658 = y := by rw [Int.tdiv_eq_ediv_of_nonneg (by omega)]; exact hy
      have htw : IntKind.i64.wrap y = y := by rw [IntKind.wrap_i64]; omega
      have htm : y.tmod 2048 = z := by rw [Int.tmod_eq_emod_of_nonneg (by omega)]; exact hz
      have c1 : IntKind.i64.wrap 12 = 12 := by decide
      have c2 : IntKind.i64.wrap 2048 = 2048 := by decide
      have c3 : IntKind.i64.wrap (l j * 4096) = l j * 4096 := by rw [IntKind.wrap_i64]; omega
      have c4 : IntKind.i64.wrap (l j * 4096 + 3329) = l j * 4096 + 3329 := by rw [IntKind.wrap_i64]; omega
      have hfin : z = (l j * 4096 + 3329) / 6658 % 2048 := by rw [hy, hz]
      have HF := Lib.hid hfin
      clear hix hl hfin hy hz
      go_wp2_with fail
      go_still_tail 11, mixed
      go_wp2_with fail
      go_roundw
      case rel =>
        refine ⟨j + 1, by omega, by go_num, (ho.drew).setCell _, ?_⟩
        have h1 := Blk.setCell (hbk.drew) j (ints .i64 (fun i => (l i * 4096 + 3329) / 6658 % 2048) j)
        rw [upto_set (by rfl)] at h1
        rw [HF.out]
        exact h1
      case measure => simp [intOf]; omega
    · have hj' : j = 256 := by omega
      subst hj'
      rw [upto_all] at hbk
      have kr2 := ho.blk (by omega) kr
      have HO := Lib.hid ho
      clear hix hl ho
      go_wp2_with (first | (refine wpList_loadA arrI (.tmp 5) bo _ hbk (size_cellsF _ _) rfl rfl rfl ?_; simp only [Act.put, List.setIfInBounds_toArray, List.set]) | (refine wpList_storeA arrI (.tmp 4) (.tmp 26) br _ _ kr2 (size_cellsF _ _) (size_cellsF _ _) (one_cellsF _ _ _) rfl rfl rfl rfl ?_; simp only [Act.put]; intro wy oy ky))
      exact bodyPost_cellA arrI rfl br _ ky (size_cellsF _ _) rfl rfl ⟨rfl, oy.ext (HO.out.ext HX.out hw0) hw1⟩

end Go.Proofs.Ytngmpnkhdjnhoaa
