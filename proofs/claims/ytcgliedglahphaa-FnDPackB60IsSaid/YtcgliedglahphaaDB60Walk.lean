/- laws.FnDPackB60Is returns true at every polynomial. -/
import Derived.Test.YtcgliedglahphaaDB60B
import Derived.Test.YtcgliedglahphaaCanon
import Derived.Test.YtcgliedglahphaaEq
import Derived.Lib.Hide
namespace Go.Proofs.Ytcgliedglahphaa.fnDPackB60Is
open Go Go.Proofs Go.RowKit Go.Kd
set_option linter.unusedSimpArgs false
set_option linter.unusedVariables false

set_option maxRecDepth 100000 in
set_option maxHeartbeats 2000000 in
theorem walk (f : Nat → Int) (hwf : ∀ i, i < 256 → (Lit.int .u32 (f i)).wf = true) (w : World) :
    Calls Try.prog 3 #[.agg (cellsF 256 (ints .u32 f))] w fun e w' => e = .returned (.bool true) ∧ Ext w w' := by
  have hb : ∀ i, i < 256 → 0 ≤ f i ∧ f i ≤ 4294967295 := fun i hi => bounds_u32 (hwf i hi)
  clear hwf
  go_enter Try.func3, Try.ntmps3
  refine wp_region_then ?_
  refine wpList_boxA 23 (.tmp 0) _ rfl rfl rfl ?_
  simp only [Act.put, List.setIfInBounds_toArray, List.set]
  intro w1 bp hp x1 kp
  have X1 := Ext.trans (Ext.refl w) x1
  have z1 := x1.size
  have lp := kp.lt
  refine wpList_val (v := .bool false) rfl rfl ?_
  simp only [Act.put, List.setIfInBounds_toArray, List.set]
  refine wp_next (wp_region_then ?_)
  refine wpList_val (v := .int .i64 0) rfl rfl ?_
  simp only [Act.put, List.setIfInBounds_toArray, List.set]
  refine wp_next (wp_seq (wp_region_then ?_))
  refine wpList_loadA arrK (.tmp 1) bp _ kp (size_cellsF _ _) rfl rfl rfl ?_
  simp only [Act.put, List.setIfInBounds_toArray, List.set]
  refine wpList_val (v := .int .i64 0) rfl rfl ?_
  simp only [Act.put, List.setIfInBounds_toArray, List.set]
  refine wp_next ?_
  have hix : ∀ (j : Nat), j < 256 → ∀ wz, (Instr.index 23 (.agg (cellsF 256 (ints .u32 f))) (.int .i64 (j : Int))).run Try.prog wz = .ok (.int .u32 (f j)) wz := fun j hj wz => run_index intK _ j hj
  have HX := Lib.hid X1
  have HP := Lib.hid kp
  have HIX := Lib.hid hix
  have HB := Lib.hid hb
  clear X1 kp hix hb x1
  go_wp2_with fail
  go_loop [10, 3] (fun x y => ∃ j : Nat, j ≤ 256 ∧ x = .int .i64 j ∧ y = .int .i64 (rk f j : Nat) ∧ Hid (rk f j ≤ j ∧ ∀ i, i < j → f i = 0 ∨ f i = 1 ∨ f i = 8380416)) (fun x _ => 256 - (intOf x).toNat)
  case atStart => exact ⟨0, by omega, rfl, rfl, Lib.hid ⟨Nat.le_refl 0, fun i hi => by omega⟩⟩
  case round =>
    obtain ⟨j, hj, rfl, rfl, hall⟩ := hrel
    by_cases hjl : j < 256
    · have h1 := HIX.out j hjl
      obtain ⟨q1, q2⟩ := HB.out j hjl
      have hrk : rk f (j + 1) = if f j = 0 then rk f j else rk f j + 1 := rfl
      have hr1 := hall.out.1
      by_cases c0 : f j = 0
      · rw [c0] at h1
        rw [if_pos c0] at hrk
        have HR := Lib.hid hrk
        have HC := Lib.hid c0
        clear hrk c0 q1 q2
        go_wp2_with fail
        go_round
        case rel => exact ⟨j + 1, by omega, by go_num, by rw [HR.out], Lib.hid ⟨by rw [HR.out]; omega, fun i hi => by
          by_cases e : i = j
          · subst e; exact .inl HC.out
          · exact hall.out.2 i (by omega)⟩⟩
        case measure => simp [intOf]; omega
      · rw [if_neg c0] at hrk
        by_cases c1 : f j = 1
        · rw [c1] at h1
          have HR := Lib.hid hrk
          have HC := Lib.hid c1
          clear hrk c0 c1 q1 q2
          go_wp2_with fail
          go_round
          case rel => exact ⟨j + 1, by omega, by go_num, by rw [HR.out]; go_num, Lib.hid ⟨by rw [HR.out]; omega, fun i hi => by
            by_cases e : i = j
            · subst e; exact .inr (.inl HC.out)
            · exact hall.out.2 i (by omega)⟩⟩
          case measure => simp [intOf]; omega
        · by_cases c2 : f j = 8380416
          · rw [c2] at h1
            have HR := Lib.hid hrk
            have HC := Lib.hid c2
            clear hrk c0 c1 c2 q1 q2
            go_wp2_with fail
            go_round
            case rel => exact ⟨j + 1, by omega, by go_num, by rw [HR.out]; go_num, Lib.hid ⟨by rw [HR.out]; omega, fun i hi => by
              by_cases e : i = j
              · subst e; exact .inr (.inr HC.out)
              · exact hall.out.2 i (by omega)⟩⟩
            case measure => simp [intOf]; omega
          · generalize f j = x at *
            have e0 : (x != 0) = true := by simpa using c0
            have e1 : (x != 1) = true := by simpa using c1
            have e2 : (x != 8380416) = true := by simpa using c2
            clear hrk c0 c1 c2
            go_wp2_with fail
            go_ret
            exact ⟨rfl, HX.out⟩
    · have hj' : j = 256 := by omega
      subst hj'
      by_cases h60 : rk f 256 = 60
      · have hf := hall.out.2
        have kp := HP.out
        have HK := fun w => Lib.hid (dPackB60_any f w hf (by omega))
        have HU := fun b c w h => Lib.hid (dUnpackB60_any b c f w h hf (by omega))
        have X1 := HX.out
        rw [h60]
        clear hall hf
        go_wp2_with (first | (refine wpList_loadA arrK (.tmp 1) bp _ kp (size_cellsF _ _) rfl rfl rfl ?_; simp only [Act.put, List.setIfInBounds_toArray, List.set]) | (go_at_call 4; refine (HK _).out.mono ?_; rintro e w2 ⟨v, rfl, bc, rfl, kc, x2⟩; have X2 := Ext.trans X1 x2; replace kp := kp.ext x2; clear HK) | (go_at_call 5; refine (HU bc _ _ kc).out.mono ?_; rintro e w3 ⟨rfl, x3⟩; have X3 := Ext.trans X2 x3; replace kp := kp.ext x3; have lp3 := kp.lt; clear HU) | (refine wpList_allocA 23 _ _ zeroK rfl rfl ?_; simp only [Act.put, List.setIfInBounds_toArray, List.set]; intro w4 bg hg x4 kg; have X4 := Ext.trans X3 x4; replace kp := kp.ext x4; have zz1 := X3.size) | (refine wpList_storeA arrK (.tmp 7) (.tmp 35) bg _ _ kg (size_cellsF _ _) (size_cellsF _ _) (one_cellsF _ _ _) rfl rfl rfl rfl ?_; simp only [Act.put]; clear kg; intro w5 o5 kg; have X5 := o5.ext X4 (by omega); replace kp := o5.blk (by omega) kp) | (refine wpList_loadA arrK (.tmp 7) bg _ kg (size_cellsF _ _) rfl rfl rfl ?_; simp only [Act.put, List.setIfInBounds_toArray, List.set]) | (refine wpList_eql intK (.tmp 44) (.tmp 45) _ f f true (eq_dec fun _ _ => rfl) rfl rfl rfl rfl ?_; simp only [Act.put, List.setIfInBounds_toArray, List.set]))
        go_ret
        exact ⟨rfl, X5⟩
      · have e1 : (((rk f 256 : Nat) : Int) != 60) = true := by simp; omega
        clear hall
        go_wp2_with fail
        go_ret
        exact ⟨rfl, HX.out⟩
end Go.Proofs.Ytcgliedglahphaa.fnDPackB60Is
