/- laws.FnKAddIs returns true at every two polynomials. -/
import Derived.Test.YtidgcjmgekeapaaKBin
import Derived.Test.YtidgcjmgekeapaaKTan
import Derived.Test.YtidgcjmgekeapaaKField
namespace Go.Proofs.Ytidgcjmgekeapaa.fnKAddIs
open Go Go.Proofs Go.RowKit Go.Kd
theorem kAdd_in (f g : Nat → Int) (w : World) (h : ∀ i, i < 256 → (-16384 ≤ f i ∧ f i < 16384) ∧ (-16384 ≤ g i ∧ g i < 16384)) : Calls Try.prog 14 #[.agg (cellsF 256 (ints .i16 f)), .agg (cellsF 256 (ints .i16 g))] w fun e w' => e = .returned (.agg (cellsF 256 (ints .i16 fun i => f i + g i))) ∧ Ext w w' :=
  (kAdd_any f g w).mono fun _ _ ⟨h1, h2⟩ => ⟨by rw [h1, ints_congr (g := fun i => f i + g i) fun i hi => by have := h i hi; show IntKind.i16.wrap _ = _; rw [wrap16_eq]; omega], h2⟩
theorem kSub_in (f g : Nat → Int) (w : World) (h : ∀ i, i < 256 → (-16384 ≤ f i ∧ f i < 16384) ∧ (-16384 ≤ g i ∧ g i < 16384)) : Calls Try.prog 15 #[.agg (cellsF 256 (ints .i16 f)), .agg (cellsF 256 (ints .i16 g))] w fun e w' => e = .returned (.agg (cellsF 256 (ints .i16 fun i => f i - g i))) ∧ Ext w w' :=
  (kSub_any f g w).mono fun _ _ ⟨h1, h2⟩ => ⟨by rw [h1, ints_congr (g := fun i => f i - g i) fun i hi => by have := h i hi; show IntKind.i16.wrap _ = _; rw [wrap16_eq]; omega], h2⟩

set_option maxRecDepth 100000 in
set_option maxHeartbeats 1000000 in
theorem walk (f : Nat → Int) (hf : ∀ i, i < 256 → (Lit.int .i16 (f i)).wf = true) (g : Nat → Int) (hg : ∀ i, i < 256 → (Lit.int .i16 (g i)).wf = true) (w : World) :
    Calls Try.prog 5 #[.agg (cellsF 256 (ints .i16 f)), .agg (cellsF 256 (ints .i16 g))] w fun e w' => e = .returned (.bool true) ∧ Ext w w' := by
  have hb : ∀ i, i < 256 → (-32768 ≤ f i ∧ f i ≤ 32767) ∧ (-32768 ≤ g i ∧ g i ≤ 32767) := fun i hi => ⟨bounds_i16 (hf i hi), bounds_i16 (hg i hi)⟩
  clear hf hg
  go_enter Try.func5, Try.ntmps5
  refine wp_region_then ?_
  refine wpList_boxA 25 (.tmp 0) _ rfl rfl rfl ?_
  simp only [Act.put, List.setIfInBounds_toArray, List.set]
  intro w1 ba ha x1 ka
  have X1 := Ext.trans (Ext.refl w) x1
  have z1 := x1.size
  have la := ka.lt
  refine wpList_boxA 25 (.tmp 1) _ rfl rfl rfl ?_
  simp only [Act.put, List.setIfInBounds_toArray, List.set]
  intro w2 bc hc x2 kc
  have X2 := Ext.trans X1 x2
  have z2 := x2.size
  replace ka := ka.ext x2
  have lc := kc.lt
  refine wpList_val (v := .bool false) rfl rfl ?_
  simp only [Act.put, List.setIfInBounds_toArray, List.set]
  refine wp_next (wp_seq (wp_region_then ?_))
  refine wpList_val (v := .int .i64 0) rfl rfl ?_
  simp only [Act.put, List.setIfInBounds_toArray, List.set]
  refine wp_next ?_
  have HX := Lib.hid X2
  clear X1 X2
  go_wp2_with fail
  go_loop [9] (fun i => ∃ j : Nat, j ≤ 256 ∧ i = .int .i64 j ∧ Hid (∀ i, i < j → (-16384 ≤ f i ∧ f i < 16384) ∧ (-16384 ≤ g i ∧ g i < 16384))) (fun i => 256 - (intOf i).toNat)
  case atStart => exact ⟨0, by omega, rfl, Lib.hid fun i hi => by omega⟩
  case round =>
    obtain ⟨j, hj, rfl, hall⟩ := hrel
    by_cases hjl : j < 256
    · obtain ⟨⟨q1, q2⟩, q3, q4⟩ := hb j hjl
      have ca : w2.cell? ⟨ba, j, none⟩ = some (.int .i16 (f j)) := ka.cell hjl
      have cb : w2.cell? ⟨bc, j, none⟩ = some (.int .i16 (g j)) := kc.cell hjl
      clear hb
      by_cases c1 : f j < -16384
      · have d1 : decide (f j < -16384) = true := by simpa using c1
        go_wp2_with fail
        go_ret
        exact ⟨rfl, HX.out⟩
      · by_cases c2 : 16384 ≤ f j
        · skip
          go_wp2_with fail
          go_ret
          exact ⟨rfl, HX.out⟩
        · by_cases c3 : g j < -16384
          · skip
            go_wp2_with fail
            go_ret
            exact ⟨rfl, HX.out⟩
          · by_cases c4 : 16384 ≤ g j
            · skip
              go_wp2_with fail
              go_ret
              exact ⟨rfl, HX.out⟩
            · go_wp2_with fail
              go_round
              case rel => exact ⟨j + 1, by omega, by go_num, Lib.hid fun i hi => by
                by_cases e : i = j
                · subst e; omega
                · exact hall.out i (by omega)⟩
              case measure => simp [intOf]; omega
    · have hj' : j = 256 := by omega
      subst hj'
      clear hb
      go_wp2_with fail
      refine wp_region_two 6 _ _ _ _ 25 25 256 256 6 7 (.tmp 37) (.tmp 40) _ _ mixed (by kernel_rfl) rfl arrK arrK zeroK zeroK (size_cellsF _ _) (size_cellsF _ _) ⟨rfl, rfl, rfl⟩ ⟨rfl, rfl, rfl⟩ ⟨rfl, rfl, rfl⟩ ⟨rfl, rfl, rfl⟩ (by decide) ?_
      simp only [List.take_succ_cons, List.take_zero]
      refine wpDet_loadA arrK (.tmp 2) ba _ ka (size_cellsF _ _) rfl rfl rfl ?_
      simp only [Act.put, List.setIfInBounds_toArray, List.set]
      refine wpDet_loadA arrK (.tmp 3) bc _ kc (size_cellsF _ _) rfl rfl rfl ?_
      simp only [Act.put, List.setIfInBounds_toArray, List.set]
      refine wpDet_call (.agg (cellsF 256 (ints .i16 (fun i => f i + g i)))) _ _ Try.func14 (by kernel_rfl) (by kernel_rfl) rfl rfl (fun w _ => kAdd_in f g w hall.out) ?_
      simp only [Act.put, List.setIfInBounds_toArray, List.set]
      refine wpDet_loadA arrK (.tmp 2) ba _ ka (size_cellsF _ _) rfl rfl rfl ?_
      simp only [Act.put, List.setIfInBounds_toArray, List.set]
      refine wpDet_loadA arrK (.tmp 3) bc _ kc (size_cellsF _ _) rfl rfl rfl ?_
      simp only [Act.put, List.setIfInBounds_toArray, List.set]
      refine wpDet_call (.agg (cellsF 256 (ints .i16 (fun i => f i - g i)))) _ _ Try.func15 (by kernel_rfl) (by kernel_rfl) rfl rfl (fun w _ => kSub_in f g w hall.out) ?_
      simp only [Act.put, List.setIfInBounds_toArray, List.set]
      refine ⟨_, _, size_cellsF _ _, size_cellsF _ _, one_cellsF _ _ _, one_cellsF _ _ _, fun _ _ => ⟨rfl, rfl, rfl, rfl⟩, ?_⟩
      intro bx bv w3 hx hv hne3 x3 kx kv
      simp only [List.setIfInBounds_toArray, List.set]
      have X3 := Ext.trans HX.out x3
      have z3 := x3.size
      replace ka := ka.ext x3
      replace kc := kc.ext x3
      have lx := kx.lt
      have lv := kv.lt
      have HX := Lib.hid X3
      clear X3
      have hix : ∀ wz, (Instr.index 25 (.agg (cellsF 256 (ints .i16 fun i => IntKind.i16.wrap (oneF i + oneF i)))) (.int .i64 0)).run Try.prog wz = .ok (.int .i16 2) wz := fun wz => run_index intK _ 0 (by omega)
      go_wp2_with fail
      go_loopw [41] (fun i wr => ∃ j : Nat, j ≤ 256 ∧ i = .int .i64 j ∧ Hid (Ext w3 wr)) (fun i _ => 256 - (intOf i).toNat)
      case atStart => exact ⟨0, by omega, rfl, Lib.hid (Ext.refl _)⟩
      case round =>
        obtain ⟨j, hj, rfl, hx⟩ := hrel
        by_cases hjl : j < 256
        · obtain ⟨⟨q1, q2⟩, q3, q4⟩ := hall.out j hjl
          have ca : wr.cell? ⟨ba, j, none⟩ = some (.int .i16 (f j)) := (ka.ext hx.out).cell hjl
          have cb : wr.cell? ⟨bc, j, none⟩ = some (.int .i16 (g j)) := (kc.ext hx.out).cell hjl
          have e1 : IntKind.i16.wrap (f j + g j) = f j + g j := by rw [wrap16_eq]; omega
          have e2 : IntKind.i16.wrap (f j - g j) = f j - g j := by rw [wrap16_eq]; omega
          have cx : wr.cell? ⟨bx, j, none⟩ = some (.int .i16 (f j + g j)) := (kx.ext hx.out).cell hjl
          have cv : wr.cell? ⟨bv, j, none⟩ = some (.int .i16 (f j - g j)) := (kv.ext hx.out).cell hjl
          clear hix
          go_wp2_with fail
          go_still mixed
          go_wp2_with fail
          go_roundw
          case rel => exact ⟨j + 1, by omega, by go_num, Lib.hid (hx.out.drew)⟩
          case measure => simp [intOf]; omega
        · have hj' : j = 256 := by omega
          subst hj'
          have HX := Lib.hid (HX.out.trans hx.out)
          clear hx
          go_wp2_with (first | (go_at_call 13; refine (one_any _).mono ?_; rintro e w' ⟨rfl, x⟩; have HX := Lib.hid (HX.out.trans x); clear x) | (go_at_call 14; refine (kAdd_any oneF oneF _).mono ?_; rintro e w' ⟨rfl, x⟩; have HX := Lib.hid (HX.out.trans x); clear x))
          go_ret
          exact ⟨rfl, HX.out⟩
end Go.Proofs.Ytidgcjmgekeapaa.fnKAddIs
