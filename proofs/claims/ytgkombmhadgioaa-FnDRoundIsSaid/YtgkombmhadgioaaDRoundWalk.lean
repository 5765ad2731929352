/- laws.FnDRoundIs returns true at every polynomial. -/
import Derived.Test.YtgkombmhadgioaaDRound2
import Derived.Test.YtgkombmhadgioaaDSpec
import Derived.Test.YtgkombmhadgioaaDOne
import Derived.Lib.Hide
namespace Go.Proofs.Ytgkombmhadgioaa.fnDRoundIs
open Go Go.Proofs Go.RowKit Go.Kd
set_option linter.unusedSimpArgs false
set_option linter.unusedVariables false
set_option maxRecDepth 100000 in
set_option maxHeartbeats 1000000 in
theorem walk (f : Nat → Int) (hf : ∀ i, i < 256 → (Lit.int .u32 (f i)).wf = true) (w : World) :
    Calls Try.prog 9 #[.agg (cellsF 256 (ints .u32 f))] w fun e w' => e = .returned (.bool true) ∧ Ext w w' := by
  have hb : ∀ i, i < 256 → 0 ≤ f i ∧ f i ≤ 4294967295 := fun i hi => bounds_u32 (hf i hi)
  clear hf
  go_enter Try.func9, Try.ntmps9
  refine wp_region_then ?_
  refine wpList_boxA 27 (.tmp 0) _ rfl rfl rfl ?_
  simp only [Act.put, List.setIfInBounds_toArray, List.set]
  intro w1 bp hp x1 kp
  have X1 := Ext.trans (Ext.refl w) x1
  have z1 := x1.size
  have lp := kp.lt
  refine wpList_val (v := .bool false) rfl rfl ?_
  simp only [Act.put, List.setIfInBounds_toArray, List.set]
  refine wp_next ?_
  rcases forallB_or 256 (fun i => f i < 8380417) with ⟨he, hall⟩ | he
  · have hbq : ∀ i, i < 256 → 0 ≤ f i ∧ f i < 8380417 := fun i hi => ⟨(hb i hi).1, hall i hi⟩
    have hix : ∀ (j : Nat), j < 256 → ∀ wz, (Instr.index 27 (.agg (cellsF 256 (ints .u32 f))) (.int .i64 (j : Int))).run Try.prog wz = .ok (.int .u32 (f j)) wz := fun j hj wz => run_index intK _ j hj
    have HQ := Lib.hid hbq
    have HI := Lib.hid hix
    clear hix
    refine wp_seq (wp_region_then ?_)
    refine wpList_loadA arrK (.tmp 1) bp _ kp (size_cellsF _ _) rfl rfl rfl ?_
    simp only [Act.put, List.setIfInBounds_toArray, List.set]
    refine wpList_call0 (v := .bool true) _ _ Try.func16 (by kernel_rfl) (by kernel_rfl) rfl rfl (below_is f 8380417 true _ hb (by omega) he) ?_
    simp only [Act.put, List.setIfInBounds_toArray, List.set]
    intro w2 x2
    have X2 := Ext.trans X1 x2
    have z2 := x2.size
    replace kp := kp.ext x2
    refine wpList_val (v := .bool false) rfl rfl ?_
    simp only [Act.put, List.setIfInBounds_toArray, List.set]
    refine wp_next (wp_cond_false rfl (wp_skip (wp_then (wp_region_then ?_))))
    refine wpList_loadA arrK (.tmp 1) bp _ kp (size_cellsF _ _) rfl rfl rfl ?_
    simp only [Act.put, List.setIfInBounds_toArray, List.set]
    refine wpList_call0 (v := .tuple #[.agg (cellsF 256 (ints .u32 (lowF f))), .agg (cellsF 256 (ints .u32 (highF f)))]) _ _ Try.func29 (by kernel_rfl) (by kernel_rfl) rfl rfl (dRound_any f _ hbq) ?_
    simp only [Act.put, List.setIfInBounds_toArray, List.set]
    intro w3 x3
    have X3 := Ext.trans X2 x3
    have z3 := x3.size
    replace kp := kp.ext x3
    refine wpList_val (v := .tuple #[.agg (cellsF 256 (ints .u32 (lowF f))), .agg (cellsF 256 (ints .u32 (highF f)))]) rfl rfl ?_
    simp only [Act.put, List.setIfInBounds_toArray, List.set]
    refine wpList_val (v := .agg (cellsF 256 (ints .u32 (lowF f)))) rfl rfl ?_
    simp only [Act.put, List.setIfInBounds_toArray, List.set]
    refine wpList_val (v := .agg (cellsF 256 (ints .u32 (highF f)))) rfl rfl ?_
    simp only [Act.put, List.setIfInBounds_toArray, List.set]
    refine wpList_allocA 27 _ _ zeroK rfl rfl ?_
    simp only [Act.put, List.setIfInBounds_toArray, List.set]
    intro w4 br hr x4 kr
    have X4 := Ext.trans X3 x4
    have z4 := x4.size
    replace kp := kp.ext x4
    have lr := kr.lt
    refine wpList_allocA 27 _ _ zeroK rfl rfl ?_
    simp only [Act.put, List.setIfInBounds_toArray, List.set]
    intro w5 bq hq x5 kq
    have X5 := Ext.trans X4 x5
    have z5 := x5.size
    replace kp := kp.ext x5
    replace kr := kr.ext x5
    have lq := kq.lt
    refine wpList_storeA arrK (.tmp 3) (.tmp 17) br _ _ kr (size_cellsF _ _) (size_cellsF _ _) (one_cellsF _ _ _) rfl rfl rfl rfl ?_
    simp only [Act.put]
    clear kr
    intro w6 o6 kr
    have X6 := o6.ext X5 (by omega)
    have z6 := o6.size
    replace kp := o6.blk (by omega) kp
    replace kq := o6.blk (by omega) kq
    refine wpList_storeA arrK (.tmp 4) (.tmp 18) bq _ _ kq (size_cellsF _ _) (size_cellsF _ _) (one_cellsF _ _ _) rfl rfl rfl rfl ?_
    simp only [Act.put]
    clear kq
    intro w7 o7 kq
    have X7 := o7.ext X6 (by omega)
    have z7 := o7.size
    replace kp := o7.blk (by omega) kp
    replace kr := o7.blk (by omega) kr
    refine wp_next (wp_seq (wp_region_then ?_))
    refine wpList_loadA arrK (.tmp 1) bp _ kp (size_cellsF _ _) rfl rfl rfl ?_
    simp only [Act.put, List.setIfInBounds_toArray, List.set]
    refine wpList_val (v := .int .i64 0) rfl rfl ?_
    simp only [Act.put, List.setIfInBounds_toArray, List.set]
    refine wp_next ?_
    have HX := Lib.hid X7
    clear hb hbq hall
    go_wp2_with fail
    go_loopw [20] (fun i wr => ∃ j : Nat, j ≤ 256 ∧ i = .int .i64 j ∧ Hid (Ext w7 wr)) (fun i _ => 256 - (intOf i).toNat)
    case atStart => exact ⟨0, by omega, rfl, Lib.hid (Ext.refl _)⟩
    case round =>
      obtain ⟨j, hj, rfl, hx⟩ := hrel
      by_cases hjl : j < 256
      · have h1 := HI.out j hjl
        have hq := HQ.out j hjl
        have HR := fun w => Lib.hid (roundS_any (f j) w hq)
        have H1 := fun w => Lib.hid (dP2rOne_any (f j) w hq)
        have kra := kr.ext hx.out
        have kqa := kq.ext hx.out
        have r1 : -4096 < low13 (f j) ∧ low13 (f j) ≤ 4096 := by unfold low13; omega
        have r2 : 0 ≤ high13 (f j) ∧ high13 (f j) ≤ 1024 := by unfold high13 low13; omega
        have hl : ints .u32 (lowF f) j = .int .u32 (8380417 + low13 (f j)) := rfl
        have hh : ints .u32 (highF f) j = .int .u32 (high13 (f j)) := rfl
        obtain ⟨q1, q2⟩ := hq
        have HL := Lib.hid hl
        have HH := Lib.hid hh
        clear hl hh HI HQ
        generalize hlo : low13 (f j) = lo at *
        generalize hhi : high13 (f j) = hi at *
        have e1 : lo + 8380417 = 8380417 + lo := by omega
        clear hlo hhi
        go_wp2_with (first | (go_at_call 30; refine (HR _).out.mono ?_; rintro e w8 ⟨rfl, x8⟩; have ca : w8.cell? ⟨br, j, none⟩ = some (.int .u32 (8380417 + lo)) := ((kra.ext x8).cell hjl).trans (congrArg some HL.out); have cb : w8.cell? ⟨bq, j, none⟩ = some (.int .u32 hi) := ((kqa.ext x8).cell hjl).trans (congrArg some HH.out)) | (go_at_call 31; refine (H1 _).out.mono ?_; rintro e w9 ⟨rfl, rfl⟩))
        go_roundw
        case rel => exact ⟨j + 1, by omega, by go_num, Lib.hid (hx.out.trans x8)⟩
        case measure => simp [intOf]; omega
      · have hj' : j = 256 := by omega
        subst hj'
        go_wp2_with fail
        go_ret
        exact ⟨rfl, HX.out.trans hx.out⟩
  · have HC := fun w => Lib.hid (below_is f 8380417 false w hb (by omega) he)
    clear he
    go_wp2_with (first | (refine wpList_loadA arrK (.tmp 1) bp _ kp (size_cellsF _ _) rfl rfl rfl ?_; simp only [Act.put, List.setIfInBounds_toArray, List.set]))
    refine (HC _).out.mono ?_
    rintro e w2 ⟨rfl, x2⟩
    have X2 := Ext.trans X1 x2
    have z2 := x2.size
    replace kp := kp.ext x2
    clear HC
    clear hb
    go_wp2_with fail
    go_ret
    exact ⟨rfl, X2⟩
end Go.Proofs.Ytgkombmhadgioaa.fnDRoundIs
