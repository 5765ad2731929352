/- mulHatGeneric, MulHat, DMulHat; D.ProductD (Dilithium). -/
import Derived.Test.YtnehgjpphojhlaaDoorDNtt
import Derived.Test.YtnehgjpphojhlaaDoorDMap
import Derived.Test.YtnehgjpphojhlaaDoorDMod
import Derived.Test.YtnehgjpphojhlaaDoorDProdP
import Derived.Test.YtnehgjpphojhlaaDoorTwo
import Derived.Lib.Hide
namespace Go.Proofs.YtnehgjpphojhlaaDoor
open Go Go.Proofs Go.RowKit Go.Kd
set_option linter.unusedSimpArgs false
set_option linter.unusedVariables false

set_option maxRecDepth 100000 in
theorem mulG_any (bp ba bb : Nat) (w : World) (gp : Nat → Value) (fa fb : Nat → Int) (T1 T2 T3 : TypeId) (hp : Blk w bp T1 (cellsF 256 gp)) (ha : Blk w ba T2 (cellsF 256 (ints .u32 fa))) (hb : Blk w bb T3 (cellsF 256 (ints .u32 fb)))
    (hpa : ba ≠ bp) (hpb : bb ≠ bp) (hfa : ∀ i, i < 256 → 0 ≤ fa i ∧ fa i < 16760834) (hfb : ∀ i, i < 256 → 0 ≤ fb i ∧ fb i < 16760834) :
    Calls Tryd.prog 30 #[.pointer (some ⟨bp, 0, none⟩), .pointer (some ⟨ba, 0, none⟩), .pointer (some ⟨bb, 0, none⟩)] w
      fun e w' => e = .returned (.tuple #[]) ∧ Only bp w w' ∧ Blk w' bp T1 (cellsF 256 (ints .u32 (fun i => montD (fa i * fb i)))) := by
  go_enter Tryd.func30, Tryd.ntmps30
  go_wp2_with fail
  go_loopw [6] (fun i wr => ∃ k : Nat, k ≤ 256 ∧ i = .int .i64 k ∧ Only bp w wr ∧ Blk wr bp T1 (cellsF 256 (upto k (ints .u32 (fun i => montD (fa i * fb i))) gp))) (fun i _ => 256 - (intOf i).toNat)
  case atStart => exact ⟨0, by omega, rfl, Only.refl _ _, by rw [upto_zero]; exact hp⟩
  case round =>
    obtain ⟨k, hk, rfl, ho, hbk⟩ := hrel
    by_cases hlt : k < 256
    · have ca : wr.cell? ⟨ba, k, none⟩ = some (.int .u32 (fa k)) := (ho.blk hpa ha).cell hlt
      have cb : wr.cell? ⟨bb, k, none⟩ = some (.int .u32 (fb k)) := (ho.blk hpb hb).cell hlt
      obtain ⟨a1, a2⟩ := hfa k hlt
      obtain ⟨b1, b2⟩ := hfb k hlt
      have hfin : ints .u32 (fun i => montD (fa i * fb i)) k = .int .u32 (montD (fa k * fb k)) := rfl
      generalize fa k = x at *
      generalize fb k = y at *
      have p1 : 0 ≤ x * y := Int.mul_nonneg a1 b1
      have p2 : x * y ≤ 16760834 * 16760834 := Int.mul_le_mul (by omega) (by omega) b1 (by omega)
      have MC := fun w => montD_any (x * y) w (by omega)
      obtain ⟨s, es⟩ : ∃ s, s = montD (x * y) := ⟨_, rfl⟩
      rw [← es] at hfin
      simp only [← es] at MC
      obtain ⟨v, ev⟩ : ∃ v, x * y = v := ⟨_, rfl⟩
      rw [ev] at p1 p2
      simp only [ev] at MC
      have ux : IntKind.u64.wrap x = x := by rw [wrap_u64']; omega
      have ux2 : x % 18446744073709551616 = x := by omega
      have uy : IntKind.u64.wrap y = y := by rw [wrap_u64']; omega
      have uy2 : y % 18446744073709551616 = y := by omega
      have uv : IntKind.u64.wrap v = v := by rw [wrap_u64']; omega
      have uv2 : v % 18446744073709551616 = v := by omega
      have HMC := Lib.hid MC
      have HF := Lib.hid hfin
      clear hp ha hb hpa hpb MC es hfin hfa hfb
      go_wp2_with fail
      go_still_tail 18, mixed
      still_call (Calls.mono (HMC.out _) fun _ _ ⟨h1, h2⟩ => ⟨h1, h2.symm⟩)
      repeat still_step
      refine wpStill_nil ?_
      refine wpList_storeI info32 (.tmp 28) (.tmp 26) bp k .u32 s hbk.drew hlt rfl rfl rfl rfl ?_
      intro w3 o3 k3
      have on3 := ho.drew.trans o3
      simp only [Act.put]
      go_wp2_with fail
      go_roundw
      case rel =>
        refine ⟨k + 1, by omega, by go_num, on3, ?_⟩
        rw [← upto_set (j := k) (v := .int .u32 s) HF.out.symm]
        exact k3
      case measure => simp [intOf]; omega
    · have hk' : k = 256 := by omega
      subst hk'
      go_wp2_with fail
      go_end0
      exact ⟨rfl, ho, by rw [upto_all] at hbk; exact hbk⟩
theorem mulM_any (bp ba bb : Nat) (w : World) (gp : Nat → Value) (fa fb : Nat → Int) (T1 T2 T3 : TypeId) (hp : Blk w bp T1 (cellsF 256 gp)) (ha : Blk w ba T2 (cellsF 256 (ints .u32 fa))) (hb : Blk w bb T3 (cellsF 256 (ints .u32 fb)))
    (hpa : ba ≠ bp) (hpb : bb ≠ bp) (hfa : ∀ i, i < 256 → 0 ≤ fa i ∧ fa i < 16760834) (hfb : ∀ i, i < 256 → 0 ≤ fb i ∧ fb i < 16760834) :
    Calls Tryd.prog 26 #[.pointer (some ⟨bp, 0, none⟩), .pointer (some ⟨ba, 0, none⟩), .pointer (some ⟨bb, 0, none⟩)] w
      fun e w' => e = .returned (.tuple #[]) ∧ Only bp w w' ∧ Blk w' bp T1 (cellsF 256 (ints .u32 (fun i => montD (fa i * fb i)))) := by
  have H := Lib.hid (mulG_any bp ba bb w gp fa fb T1 T2 T3 hp ha hb hpa hpb hfa hfb)
  clear hp ha hb hpa hpb hfa hfb
  go_enter Tryd.func26, Tryd.ntmps26
  go_wp2_with (go_at_call 30; refine H.out.mono ?_; rintro e w' ⟨rfl, hq⟩)
  go_end0
  exact ⟨rfl, hq⟩

/-- the wrapper of a method of two polynomials -/
theorem dMul_any (f g : Nat → Int) (w : World) (hfa : ∀ i, i < 256 → 0 ≤ f i ∧ f i < 16760834) (hfb : ∀ i, i < 256 → 0 ≤ g i ∧ g i < 16760834) : Calls Tryd.prog 19 #[.agg (cellsF 256 (ints .u32 f)), .agg (cellsF 256 (ints .u32 g))] w fun e w' => e = .returned (.agg (cellsF 256 (ints .u32 (fun i => montD (f i * g i))))) ∧ Ext w w' := by
  go_enter Tryd.func19, Tryd.ntmps19
  refine wp_region_then ?_
  refine wpList_boxA 28 (.tmp 0) _ rfl rfl rfl ?_
  simp only [Act.put, List.setIfInBounds_toArray, List.set]
  intro w1 ba ha x1 ka
  have X1 := Ext.trans (Ext.refl w) x1
  have z1 := x1.size
  have la := ka.lt
  refine wpList_boxA 28 (.tmp 1) _ rfl rfl rfl ?_
  simp only [Act.put, List.setIfInBounds_toArray, List.set]
  intro w2 bc hc x2 kc
  have X2 := Ext.trans X1 x2
  have z2 := x2.size
  replace ka := ka.ext x2
  have lc := kc.lt
  refine wpList_allocA 28 _ _ zeroK rfl rfl ?_
  simp only [Act.put, List.setIfInBounds_toArray, List.set]
  intro w3 br hr x3 kr
  have X3 := Ext.trans X2 x3
  have z3 := x3.size
  replace ka := ka.ext x3
  replace kc := kc.ext x3
  have lr := kr.lt
  refine wp_next (wp_region_then ?_)
  refine wpList_allocA 42 _ _ zeroP rfl rfl ?_
  simp only [Act.put, List.setIfInBounds_toArray, List.set]
  intro w4 bo ho x4 ko
  have X4 := Ext.trans X3 x4
  have z4 := x4.size
  replace ka := ka.ext x4
  replace kc := kc.ext x4
  replace kr := kr.ext x4
  have lo := ko.lt
  refine wp_next (wp_seq ?_)
  refine wp_region_two 2 _ _ _ _ 42 42 256 256 6 7 (.tmp 8) (.tmp 9) _ _ mixed (by kernel_rfl) rfl arrP arrP zeroP zeroP (size_cellsF _ _) (size_cellsF _ _) ⟨rfl, rfl, rfl⟩ ⟨rfl, rfl, rfl⟩ ⟨rfl, rfl, rfl⟩ ⟨rfl, rfl, rfl⟩ (by decide) ?_
  simp only [List.take_succ_cons, List.take_zero]
  refine wpDet_loadA arrK (.tmp 2) ba _ ka (size_cellsF _ _) rfl rfl rfl ?_
  simp only [Act.put, List.setIfInBounds_toArray, List.set]
  refine wpDet_loadA arrK (.tmp 3) bc _ kc (size_cellsF _ _) rfl rfl rfl ?_
  simp only [Act.put, List.setIfInBounds_toArray, List.set]
  refine ⟨_, _, size_cellsF _ _, size_cellsF _ _, one_cellsF _ _ _, one_cellsF _ _ _, fun _ _ => ⟨rfl, rfl, rfl, rfl⟩, ?_⟩
  intro bx bv w5 hx hv hne5 x5 kx kv
  simp only [List.setIfInBounds_toArray, List.set]
  have X5 := Ext.trans X4 x5
  have z5 := x5.size
  replace ka := ka.ext x5
  replace kc := kc.ext x5
  replace kr := kr.ext x5
  replace ko := ko.ext x5
  have lx := kx.lt
  have lv := kv.lt
  refine wp_then (wp_region_then ?_)
  refine wpList_call0 _ _ Tryd.func26 (by kernel_rfl) (by kernel_rfl) rfl rfl (mulM_any bo bx bv _ _ f g _ _ _ ko kx kv (by omega) (by omega) hfa hfb) ?_
  simp only [Act.put, List.setIfInBounds_toArray, List.set]
  clear ko
  rintro w6 ⟨o6, ko⟩
  have X6 := o6.ext X5 (by omega)
  have z6 := o6.size
  replace ka := o6.blk (by omega) ka
  replace kc := o6.blk (by omega) kc
  replace kr := o6.blk (by omega) kr
  replace kx := o6.blk (by omega) kx
  replace kv := o6.blk (by omega) kv
  refine wp_next (wp_region_then ?_)
  refine wpList_loadA arrP (.tmp 5) bo _ ko (size_cellsF _ _) rfl rfl rfl ?_
  simp only [Act.put, List.setIfInBounds_toArray, List.set]
  refine wpList_storeA arrK (.tmp 4) (.tmp 11) br _ _ kr (size_cellsF _ _) (size_cellsF _ _) (one_cellsF _ _ _) rfl rfl rfl rfl ?_
  simp only [Act.put]
  clear kr
  intro w7 o7 kr
  have X7 := o7.ext X6 (by omega)
  have z7 := o7.size
  replace ka := o7.blk (by omega) ka
  replace kc := o7.blk (by omega) kc
  replace ko := o7.blk (by omega) ko
  replace kx := o7.blk (by omega) kx
  replace kv := o7.blk (by omega) kv
  refine wp_next (wp_ret ?_)
  exact bodyPost_cellA arrK rfl br _ kr (size_cellsF _ _) rfl rfl ⟨rfl, X7⟩

theorem upd_bd {o : Nat → Int} (ho : ∀ t, 0 ≤ o t ∧ o t < 8380417) (k : Nat) (v : Int) : ∀ t, 0 ≤ upd o k v t ∧ upd o k v t < 8380417 := fun t => by
  have h := ho t
  unfold upd
  split <;> omega
theorem pJ_bd (a b : Nat → Int) (i : Nat) {o : Nat → Int} (ho : ∀ t, 0 ≤ o t ∧ o t < 8380417) : ∀ j t, 0 ≤ pJ a b i o j t ∧ pJ a b i o j t < 8380417
  | 0, t => ho t
  | j + 1, t => upd_bd (pJ_bd a b i ho j) _ _ t
theorem pI_bd (a b : Nat → Int) : ∀ i t, 0 ≤ pI a b i t ∧ pI a b i t < 8380417
  | 0, t => by show (0 : Int) ≤ 0 ∧ (0 : Int) < 8380417; omega
  | i + 1, t => pJ_bd a b i (pI_bd a b i) 256 t
set_option maxRecDepth 100000 in
set_option maxHeartbeats 2000000 in
theorem sProd_any (f g : Nat → Int) (w : World) (hf : ∀ i, i < 256 → 0 ≤ f i ∧ f i < 8380417) (hg : ∀ i, i < 256 → 0 ≤ g i ∧ g i < 8380417) :
    Calls Tryd.prog 20 #[.agg (cellsF 256 (ints .i64 f)), .agg (cellsF 256 (ints .i64 g))] w fun e w' => e = .returned (.agg (cellsF 256 (ints .i64 (pI f g 256)))) ∧ Ext w w' := by
  go_enter Tryd.func20, Tryd.ntmps20
  refine wp_region_then ?_
  refine wpList_boxA 32 (.tmp 0) _ rfl rfl rfl ?_
  simp only [Act.put, List.setIfInBounds_toArray, List.set]
  intro w1 ba ha x1 ka
  have X1 := Ext.trans (Ext.refl w) x1
  have z1 := x1.size
  have la := ka.lt
  refine wpList_boxA 32 (.tmp 1) _ rfl rfl rfl ?_
  simp only [Act.put, List.setIfInBounds_toArray, List.set]
  intro w2 bc hc x2 kc
  have X2 := Ext.trans X1 x2
  have z2 := x2.size
  replace ka := ka.ext x2
  have lc := kc.lt
  refine wpList_allocA 32 _ _ zeroS rfl rfl ?_
  simp only [Act.put, List.setIfInBounds_toArray, List.set]
  intro w3 br hr x3 kr
  have X3 := Ext.trans X2 x3
  have z3 := x3.size
  replace ka := ka.ext x3
  replace kc := kc.ext x3
  have lr := kr.lt
  refine wp_next (wp_region_then ?_)
  refine wpList_build0 intS _ zeroS rfl rfl ?_
  simp only [Act.put, List.setIfInBounds_toArray, List.set]
  refine wpList_allocA 32 _ _ zeroS rfl rfl ?_
  simp only [Act.put, List.setIfInBounds_toArray, List.set]
  intro w4 bo ho x4 ko
  have X4 := Ext.trans X3 x4
  have z4 := x4.size
  replace ka := ka.ext x4
  replace kc := kc.ext x4
  replace kr := kr.ext x4
  have lo := ko.lt
  refine wpList_storeA arrS (.tmp 5) (.tmp 12) bo _ (cellsF 256 (ints .i64 fun _ => 0)) ko (size_cellsF _ _) (size_cellsF _ _) (one_cellsF _ _ _) rfl rfl rfl rfl ?_
  simp only [Act.put]
  clear ko
  intro w5 o5 ko
  have X5 := o5.ext X4 (by omega)
  have z5 := o5.size
  replace ka := o5.blk (by omega) ka
  replace kc := o5.blk (by omega) kc
  replace kr := o5.blk (by omega) kr
  refine wp_next (wp_seq (wp_region_then ?_))
  refine wpList_loadA arrS (.tmp 2) ba _ ka (size_cellsF _ _) rfl rfl rfl ?_
  simp only [Act.put, List.setIfInBounds_toArray, List.set]
  refine wpList_val (v := .int .i64 0) rfl rfl ?_
  simp only [Act.put, List.setIfInBounds_toArray, List.set]
  refine wp_next ?_
  have hix : ∀ (q : Nat → Int) (j : Nat), j < 256 → ∀ wz, (Instr.index 32 (.agg (cellsF 256 (ints .i64 q))) (.int .i64 (j : Int))).run Tryd.prog wz = .ok (.int .i64 (q j)) wz := fun q j hj wz => run_index intS _ j hj
  have hlt : br < bo := by omega
  have hco : bc < bo := by omega
  have hw0 : w.heap.size ≤ bo := by omega
  have hw1 : w.heap.size ≤ br := by omega
  have HX := Lib.hid X5
  have HIX := Lib.hid hix
  have HFB := Lib.hid hf
  have HGB := Lib.hid hg
  have KC := Lib.hid kc
  clear X1 X2 X3 X4 X5 hix hf hg kc x1 x2 x3 x4
  go_wp2_with fail
  go_loopw [14] (fun x wr => ∃ i : Nat, i ≤ 256 ∧ x = .int .i64 i ∧ Only bo w5 wr ∧ Blk wr bo 32 (cellsF 256 (ints .i64 (pI f g i)))) (fun x _ => 256 - (intOf x).toNat)
  case atStart => exact ⟨0, by omega, rfl, Only.refl _ _, ko⟩
  case round =>
    obtain ⟨i, hi, rfl, hon, hbk⟩ := hrel
    by_cases hil : i < 256
    · have h1 := HIX.out f i hil
      obtain ⟨x1, x2⟩ := HFB.out i hil
      have kc2 := hon.blk (by omega) KC.out
      have mk1 : True := trivial
      clear ko
      go_wp2_with (clear mk1; refine wpList_loadA arrS (.tmp 3) bc _ kc2 (size_cellsF _ _) rfl rfl rfl ?_; simp only [Act.put, List.setIfInBounds_toArray, List.set])
      have hjz : decide ((i : Int) < 256) = true := decide_eq_true (by omega)
      try rw [hjz]
      clear hjz
      go_loopw [19] (fun x wr => ∃ j : Nat, j ≤ 256 ∧ x = .int .i64 j ∧ Only bo w5 wr ∧ Blk wr bo 32 (cellsF 256 (ints .i64 (pJ f g i (pI f g i) j)))) (fun x _ => 256 - (intOf x).toNat)
      case atStart => exact ⟨0, by omega, rfl, hon, hbk⟩
      case round =>
        clear hon hbk kc2
        obtain ⟨j, hj, rfl, hon, hbk⟩ := hrel
        by_cases hjl : j < 256
        · have h2 := HIX.out g j hjl
          obtain ⟨y1, y2⟩ := HGB.out j hjl
          have hob := pJ_bd f g i (pI_bd f g i) j (pAt i j)
          have hst : ∀ t, pJ f g i (pI f g i) (j + 1) t = if t = pAt i j then (pJ f g i (pI f g i) j (pAt i j) + pV f g i j) % 8380417 else pJ f g i (pI f g i) j t := fun t => by
            show upd _ _ _ t = _
            unfold upd
            by_cases h : t = pAt i j
            · rw [if_pos h, if_pos h, h]
            · rw [if_neg h, if_neg h]
          have hpv : pV f g i j = if i + j > 255 then -(f i * g j % 8380417) else f i * g j % 8380417 := rfl
          have hpa : pAt i j = if i + j > 255 then i + j - 256 else i + j := rfl
          obtain ⟨q, eq⟩ : ∃ q, pAt i j = q := ⟨_, rfl⟩
          rw [eq] at hob hst hpa
          have hq : q < 256 := by split at hpa <;> omega
          have ca : wr.cell? ⟨bo, q, none⟩ = some (.int .i64 (pJ f g i (pI f g i) j q)) := hbk.cell hq
          have fp := hbk.frozen q
          generalize f i = x at *
          generalize g j = y at *
          generalize hco9 : pJ f g i (pI f g i) j q = c at *
          have HC9 := Lib.hid hco9
          clear hco9 eq
          obtain ⟨c1, c2⟩ := hob
          have p1 : 0 ≤ x * y := Int.mul_nonneg x1 y1
          have p2 : x * y ≤ 8380417 * 8380417 := Int.mul_le_mul (by omega) (by omega) y1 (by omega)
          obtain ⟨v, ev⟩ : ∃ v, x * y = v := ⟨_, rfl⟩
          rw [ev] at p1 p2 hpv
          have uv : IntKind.i64.wrap v = v := by rw [IntKind.wrap_i64]; omega
          obtain ⟨t, et⟩ : ∃ t, v % 8380417 = t := ⟨_, rfl⟩
          rw [et] at hpv
          have tm : v.tmod 8380417 = t := by rw [Int.tmod_eq_emod_of_nonneg p1]; exact et
          have t1 : 0 ≤ t ∧ t < 8380417 := by omega
          by_cases hw : 255 < i + j
          · rw [if_pos hw] at hpv hpa
            rw [hpv] at hst
            obtain ⟨d, ed⟩ : ∃ d, c + -t = d := ⟨_, rfl⟩
            have MC := fun w => mod_any d w (by omega)
            obtain ⟨s, es⟩ : ∃ s, d % 8380417 = s := ⟨_, rfl⟩
            rw [ed, es] at hst
            simp only [es] at MC
            have ud : IntKind.i64.wrap d = d := by rw [IntKind.wrap_i64]; omega
            have ut : IntKind.i64.wrap (-t) = -t := by rw [IntKind.wrap_i64]; omega
            have zq : (i : Int) + (j : Int) - 256 = (q : Int) := by omega
            have tq : (q : Int) < 256 := by omega
            have HST := Lib.hid hst
            have HMC := Lib.hid MC
            clear hst MC es hpv hpa et
            go_wp2_with (go_at_call 9; refine (HMC.out _).mono ?_; rintro e w' ⟨rfl, rfl⟩)
            go_roundw
            case rel =>
              refine ⟨j + 1, by omega, by go_num, hon.setCell _, (hbk.setCell q (.int .i64 s)).congr fun x _ => ?_⟩
              show _ = Value.int .i64 (pJ f g i (pI f g i) (j + 1) x)
              rw [HST.out x]
              split <;> rfl
            case measure => simp [intOf]; omega
          · rw [if_neg (by omega)] at hpv hpa
            rw [hpv] at hst
            obtain ⟨d, ed⟩ : ∃ d, c + t = d := ⟨_, rfl⟩
            have MC := fun w => mod_any d w (by omega)
            obtain ⟨s, es⟩ : ∃ s, d % 8380417 = s := ⟨_, rfl⟩
            rw [ed, es] at hst
            simp only [es] at MC
            have ud : IntKind.i64.wrap d = d := by rw [IntKind.wrap_i64]; omega
            have zq : (i : Int) + (j : Int) = (q : Int) := by omega
            have tq : (q : Int) < 256 := by omega
            have tq2 : ¬ 255 < (q : Int) := by omega
            have HST := Lib.hid hst
            have HMC := Lib.hid MC
            clear hst MC es hpv hpa et
            go_wp2_with (go_at_call 9; refine (HMC.out _).mono ?_; rintro e w' ⟨rfl, rfl⟩)
            go_roundw
            case rel =>
              refine ⟨j + 1, by omega, by go_num, hon.setCell _, (hbk.setCell q (.int .i64 s)).congr fun x _ => ?_⟩
              show _ = Value.int .i64 (pJ f g i (pI f g i) (j + 1) x)
              rw [HST.out x]
              split <;> rfl
            case measure => simp [intOf]; omega
        · have hj' : j = 256 := by omega
          subst hj'
          go_wp2_with fail
          go_roundw
          case rel => exact ⟨i + 1, by omega, by go_num, hon, hbk⟩
          case measure => simp [intOf]; omega
    · have hi' : i = 256 := by omega
      subst hi'
      have kr2 := hon.blk (by omega) kr
      have HO := Lib.hid hon
      clear hon ko
      go_wp2_with (first | (refine wpList_loadA arrS (.tmp 5) bo _ hbk (size_cellsF _ _) rfl rfl rfl ?_; simp only [Act.put, List.setIfInBounds_toArray, List.set]) | (refine wpList_storeA arrS (.tmp 4) (.tmp 46) br _ _ kr2 (size_cellsF _ _) (size_cellsF _ _) (one_cellsF _ _ _) rfl rfl rfl rfl ?_; simp only [Act.put]; intro wy oy ky))
      exact bodyPost_cellA arrS rfl br _ ky (size_cellsF _ _) rfl rfl ⟨rfl, oy.ext (HO.out.ext HX.out hw0) hw1⟩

end Go.Proofs.YtnehgjpphojhlaaDoor
