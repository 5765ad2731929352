/- nttGeneric, NTT, KNTT (Kyber). -/
import Derived.Test.YtgojphoejmbliaaDoorKNttP
import Derived.Test.YtgojphoejmbliaaDoorKTan
import Derived.Test.YtgojphoejmbliaaDoorStore
import Derived.Test.YtgojphoejmbliaaDoorBits
import Derived.Lib.Hide
namespace Go.Proofs.YtgojphoejmbliaaDoor
open Go Go.Proofs Go.RowKit Go.Kd
set_option linter.unusedSimpArgs false
set_option linter.unusedVariables false
theorem ZetasIn.only {w w' : World} {b : Nat} (h : ZetasIn w) (hne : 0 ≠ b) (ho : Only b w w') : ZetasIn w' := fun j hj => by
  rw [← h j hj]
  simp only [World.cell?, ho.block _ hne]
theorem ZetasIn.ext {w w' : World} (h : ZetasIn w) (hx : Ext w w') : ZetasIn w' := fun j hj => by
  have h1 := h j hj
  have h2 : 0 < w.heap.size := by
    rcases Nat.lt_or_ge 0 w.heap.size with h3 | h3
    · exact h3
    · have e : w.heap[0]? = none := Array.getElem?_eq_none h3
      simp [World.cell?, e] at h1
  exact (hx.cell h2).trans h1
theorem ZetasIn.lt {w : World} (h : ZetasIn w) : 0 < w.heap.size := by
  have h1 := h 0 (by omega)
  rcases Nat.lt_or_ge 0 w.heap.size with h3 | h3
  · exact h3
  · have e : w.heap[0]? = none := Array.getElem?_eq_none h3
    simp [World.cell?, e] at h1
set_option maxRecDepth 100000 in
set_option maxHeartbeats 4000000 in
theorem nttGeneric_any (b : Nat) (w : World) (T : TypeId) (f : Nat → Int) (hb : Blk w b T (cellsF 256 (ints .i16 f))) (hz : ZetasIn w) (hne : 0 ≠ b) (hf : ∀ i, i < 256 → -3329 ≤ f i ∧ f i ≤ 3329) :
    Calls Tryd.prog 20 #[.pointer (some ⟨b, 0, none⟩)] w fun e w' => e = .returned (.tuple #[]) ∧ Only b w w' ∧ Blk w' b T (cellsF 256 (ints .i16 (FK f 7))) := by
  have HZ := Lib.hid hz
  have HB := Lib.hid (FK_bd f hf)
  clear hz hf
  go_enter Tryd.func20, Tryd.ntmps20
  go_wp2_with fail
  go_loopw [3, 2] (fun x y wr => ∃ n : Nat, n ≤ 7 ∧ x = .int .i64 (lenK n : Nat) ∧ y = .int .i64 (2 ^ n - 1 : Nat) ∧ Only b w wr ∧ Blk wr b T (cellsF 256 (ints .i16 (FK f n)))) (fun x _ _ => (intOf x).toNat)
  case atStart => exact ⟨0, by omega, rfl, rfl, Only.refl _ _, hb⟩
  case round =>
    obtain ⟨n, hn, rfl, rfl, hon, hbk⟩ := hrel
    by_cases hn7 : n < 7
    · obtain ⟨l1, l2, l3, l4, k1, k2, k3⟩ := len_facts n hn7
      have hlay : FK f (n + 1) = lay (lenK n) (kA n) (kB n) (FK f n) := rfl
      have hbd := HB.out n (by omega)
      have hrest := HB.out (n + 1) (by omega)
      obtain ⟨N, eN⟩ : ∃ N, N = FK f (n + 1) := ⟨_, rfl⟩
      rw [← eN] at hlay hrest
      obtain ⟨F, eF⟩ : ∃ F, F = FK f n := ⟨_, rfl⟩
      rw [← eF] at hlay hbd hbk
      obtain ⟨l2', el2⟩ : ∃ l2', l2' = lenK (n + 1) := ⟨_, rfl⟩
      rw [← el2] at l3
      have hA : ∀ c m, m < lenK n → N (2 * lenK n * c + m) = F (2 * lenK n * c + m) + mont (zs.getD (2 ^ n + c) 0 * F (2 * lenK n * c + m + lenK n)) := fun c m h => by rw [hlay, lay_lo _ _ _ _ h]; rfl
      have hB : ∀ c m, m < lenK n → N (2 * lenK n * c + m + lenK n) = F (2 * lenK n * c + m) - mont (zs.getD (2 ^ n + c) 0 * F (2 * lenK n * c + m + lenK n)) := fun c m h => by rw [hlay, lay_hi _ _ _ _ h]; rfl
      obtain ⟨l, el⟩ : ∃ l, l = lenK n := ⟨_, rfl⟩
      rw [← el] at l1 l2 l3 l4 hA hB
      obtain ⟨K, eK⟩ : ∃ K, K = 2 ^ n := ⟨_, rfl⟩
      rw [← eK] at l4 k1 k2 k3 hA hB
      have HA := Lib.hid hA
      have HB2 := Lib.hid hB
      have HD := Lib.hid hbd
      have HN := Lib.hid eN
      have HL := Lib.hid el2
      have HK := Lib.hid k3
      have H4 := Lib.hid l4
      have H3 := Lib.hid l3
      have hn23 : (n : Int) ≤ 6 := by omega
      simp only [← el, ← eK]
      clear hA hB hbd hrest hlay eF eN el2 k3 l4 l3 el eK hb
      go_wp2_with fail
      have hj1 : decide (1 < (l : Int)) = true := decide_eq_true (by omega)
      try rw [hj1]
      clear hj1
      go_loopw [4, 2] (fun x y wr => ∃ c o : Nat, c ≤ K ∧ o = 2 * l * c ∧ o ≤ 256 ∧ x = .int .i64 (o : Nat) ∧ y = .int .i64 (K - 1 + c : Nat) ∧ Only b w wr ∧ Blk wr b T (cellsF 256 (ints .i16 (mixP o l 0 N F)))) (fun x _ _ => 256 - (intOf x).toNat)
      case atStart => exact ⟨0, 0, by omega, by omega, by omega, rfl, rfl, hon, by rw [mixP_zero]; exact hbk⟩
      case round =>
        clear hon hbk
        obtain ⟨c, o, hc, ho, ho256, rfl, rfl, hon, hbk⟩ := hrel
        by_cases hcK : c < K
        · have ho2 : o + 2 * l ≤ 256 := by
            have h1 : 2 * l * (c + 1) ≤ 2 * l * K := Nat.mul_le_mul_left _ (by omega)
            rw [H4.out, Nat.mul_add, Nat.mul_one, ← ho] at h1
            exact h1
          have hA := fun m h => HA.out c m h
          have hB := fun m h => HB2.out c m h
          rw [← ho] at hA hB
          have HO := Lib.hid ho
          clear ho
          obtain ⟨k, ek⟩ : ∃ k, k = K + c := ⟨_, rfl⟩
          have hk128 : k < 128 := by omega
          obtain ⟨z1, z2⟩ := zs_bd k hk128
          have hzc := (HZ.out.only hne hon) k hk128
          have hmp := mont_prod k hk128
          rw [← ek] at hA hB
          generalize zs.getD k 0 = z at *
          obtain ⟨k0, ek0⟩ : ∃ k0 : Nat, k0 = K - 1 + c := ⟨_, rfl⟩
          have zk : (k0 : Int) + 1 = (k : Int) := by omega
          have uk : IntKind.i64.wrap (k : Int) = (k : Int) := by rw [IntKind.wrap_i64]; omega
          have tk : (k : Int) < 128 := by omega
          have uz : IntKind.i32.wrap z = z := by rw [IntKind.wrap_i32]; omega
          have uz2 : wrap32 z = z := by rw [wrap32_eq]; omega
          have HE0 := Lib.hid ek0
          have HE := Lib.hid ek
          have HM := Lib.hid hmp
          have HA1 := Lib.hid hA
          have HB1 := Lib.hid hB
          simp only [← ek0]
          clear ek ek0 hA hB hmp
          go_wp2_with fail
          have hj2 : decide ((o : Int) < 256 - (l : Int)) = true := decide_eq_true (by omega)
          try rw [hj2]
          clear hj2
          go_loopw [6] (fun y wr => ∃ m : Nat, m ≤ l ∧ y = .int .i64 (o + m : Nat) ∧ Only b w wr ∧ Blk wr b T (cellsF 256 (ints .i16 (mixP o l m N F)))) (fun y _ => o + l - (intOf y).toNat)
          case atStart => exact ⟨0, by omega, rfl, hon, hbk⟩
          case round =>
            clear hon hbk hzc
            obtain ⟨m, hm, rfl, hon, hbk⟩ := hrel
            by_cases hml : m < l
            · have hNp := HA1.out m hml
              have hNq := HB1.out m hml
              have hst := mixP_step N F hml (o := o) (l := l)
              have vp := mixP_lo (o := o) N F hml
              have vq := mixP_hi (o := o) (l := l) (m := m) N F
              obtain ⟨p, ep⟩ : ∃ p, p = o + m := ⟨_, rfl⟩
              obtain ⟨q, eq⟩ : ∃ q, q = p + l := ⟨_, rfl⟩
              rw [← ep, ← eq] at hNp hNq
              rw [← ep] at vp
              rw [← ep, ← eq] at vq
              simp only [← ep, ← eq] at hst
              have hp : p < 256 := by omega
              have hq : q < 256 := by omega
              have hpq : p ≠ q := by omega
              have ca : wr.cell? ⟨b, p, none⟩ = some (.int .i16 (F p)) := by rw [← vp]; exact hbk.cell hp
              have cb : wr.cell? ⟨b, q, none⟩ = some (.int .i16 (F q)) := by rw [← vq]; exact hbk.cell hq
              obtain ⟨x1, x2⟩ := HD.out p hp
              obtain ⟨y1, y2⟩ := HD.out q hq
              have hmo := HM.out (F q) (by omega)
              have hpr := prod_bd z (F q) 23303 ⟨z1, z2⟩ (by omega)
              generalize F p = x at *
              generalize F q = y at *
              have uy : IntKind.i32.wrap y = y := by rw [IntKind.wrap_i32]; omega
              have uy2 : wrap32 y = y := by rw [wrap32_eq]; omega
              have MC := fun w => mont_any (z * y) w (by omega)
              obtain ⟨t, et⟩ : ∃ t, t = mont (z * y) := ⟨_, rfl⟩
              rw [← et] at hNp hNq hmo
              simp only [← et] at MC
              obtain ⟨v, ev⟩ : ∃ v, z * y = v := ⟨_, rfl⟩
              rw [ev] at hpr
              simp only [ev] at MC
              have uv : IntKind.i32.wrap v = v := by rw [IntKind.wrap_i32]; omega
              have uv2 : wrap32 v = v := by rw [wrap32_eq]; omega
              obtain ⟨s1, es1⟩ : ∃ s, x - t = s := ⟨_, rfl⟩
              obtain ⟨s2, es2⟩ : ∃ s, x + t = s := ⟨_, rfl⟩
              rw [es2] at hNp
              rw [es1] at hNq
              have us1 : IntKind.i16.wrap s1 = s1 := by rw [wrap_i16']; omega
              have us2 : IntKind.i16.wrap s2 = s2 := by rw [wrap_i16']; omega
              have zp : (o : Int) + (m : Int) = (p : Int) := by omega
              have zq : (p : Int) + (l : Int) = (q : Int) := by omega
              have up : IntKind.i64.wrap (p : Int) = (p : Int) := by rw [IntKind.wrap_i64]; omega
              have uq : IntKind.i64.wrap (q : Int) = (q : Int) := by rw [IntKind.wrap_i64]; omega
              have tp : (p : Int) < 256 := by omega
              have tq : (q : Int) < 256 := by omega
              have tpl : (p : Int) < (o : Int) + (l : Int) := by omega
              have HMC := Lib.hid MC
              have HVP := Lib.hid vp
              have HNp := Lib.hid hNp
              have HNq := Lib.hid hNq
              have HST := Lib.hid hst
              have HEP := Lib.hid ep
              have HEQ := Lib.hid eq
              clear hNp hNq hst ep eq vp vq MC et hmo hpr
              go_wp2_with (go_at_call 25; refine (HMC.out _).mono ?_; rintro e w' ⟨rfl, rfl⟩)
              go_still_tail 13, (by kernel_rfl)
              refine wpList_storeI info16 (.tmp 57) (.tmp 55) b q .i16 s1 hbk.drew hq rfl rfl rfl rfl ?_
              intro w2 o2 k2
              have on2 := hon.drew.trans o2
              clear ca cb
              have ca : w2.cell? ⟨b, p, none⟩ = some (.int .i16 x) := by
                have h := k2.cell hp
                rw [if_neg hpq] at h
                rw [h]
                show some (Value.int .i16 (mixP o l m N F p)) = _
                rw [HVP.out]
              simp only [Act.put]
              go_wp2_with fail
              go_still_tail 9, (by kernel_rfl)
              refine wpList_storeI info16 (.tmp 66) (.tmp 64) b p .i16 s2 k2.drew hp rfl rfl rfl rfl ?_
              intro w3 o3 k3
              have on3 := on2.drew.trans o3
              clear ca
              simp only [Act.put]
              go_wp2_with fail
              go_roundw
              case rel =>
                refine ⟨m + 1, by omega, by go_num, on3, k3.congr fun x hx => ?_⟩
                show _ = Value.int .i16 (mixP o l (m + 1) N F x)
                rw [HST.out x]
                by_cases c1 : x = p
                · rw [if_pos c1, if_pos c1, HNp.out]
                · rw [if_neg c1, if_neg c1]
                  by_cases c2 : x = q
                  · rw [if_pos c2, if_pos c2, HNq.out]
                  · rw [if_neg c2, if_neg c2]; rfl
              case measure => simp [intOf]; omega
            · have hml' : m = l := by omega
              subst hml'
              rw [mixP_next] at hbk
              go_wp2_with fail
              go_roundw
              case rel => exact ⟨c + 1, o + 2 * m, by omega, by rw [HO.out, Nat.mul_add, Nat.mul_one], by omega, by go_num, by have h1 := HE.out; go_num, hon, hbk⟩
              case measure => simp [intOf]; omega
        · have hcK' : c = K := by omega
          subst hcK'
          rw [H4.out] at ho
          subst ho
          go_wp2_with fail
          go_roundw
          case rel => 
            refine ⟨n + 1, by omega, by rw [← HL.out]; have h := H3.out; go_num, by rw [HK.out]; go_num, hon, ?_⟩
            exact hbk.congr fun i hi => by
              show Value.int .i16 (mixP 256 l 0 N F i) = _
              rw [mixP_all _ _ _ hi, HN.out]; rfl
          case measure => simp [intOf]; omega
    · have hn' : n = 7 := by omega
      subst hn'
      go_wp2_with fail
      go_end0
      exact ⟨rfl, hon, hbk⟩
theorem ntt_any (b : Nat) (w : World) (T : TypeId) (f : Nat → Int) (hb : Blk w b T (cellsF 256 (ints .i16 f))) (hz : ZetasIn w) (hne : 0 ≠ b) (hf : ∀ i, i < 256 → -3329 ≤ f i ∧ f i ≤ 3329) :
    Calls Tryd.prog 15 #[.pointer (some ⟨b, 0, none⟩)] w fun e w' => e = .returned (.tuple #[]) ∧ Only b w w' ∧ Blk w' b T (cellsF 256 (ints .i16 (FK f 7))) := by
  have H := Lib.hid (nttGeneric_any b w T f hb hz hne hf)
  clear hb hz hf
  go_enter Tryd.func15, Tryd.ntmps15
  go_wp2_with (go_at_call 20; refine H.out.mono ?_; rintro e w' ⟨rfl, hq⟩)
  go_end0
  exact ⟨rfl, hq⟩
/-- the wrapper of a method -/
theorem kNTT_any (f : Nat → Int) (w : World) (hz : ZetasIn w) (hf : ∀ i, i < 256 → -3329 ≤ f i ∧ f i ≤ 3329) : Calls Tryd.prog 6 #[.agg (cellsF 256 (ints .i16 f))] w fun e w' => e = .returned (.agg (cellsF 256 (ints .i16 (FK f 7)))) ∧ Ext w w' := by
  go_enter Tryd.func6, Tryd.ntmps6
  refine wp_region_then ?_
  refine wpList_boxA 23 (.tmp 0) _ rfl rfl rfl ?_
  simp only [Act.put, List.setIfInBounds_toArray, List.set]
  intro w1 bp hp x1 kp
  have X1 := Ext.trans (Ext.refl w) x1
  have z1 := x1.size
  have lp := kp.lt
  refine wpList_allocA 23 _ _ zeroK rfl rfl ?_
  simp only [Act.put, List.setIfInBounds_toArray, List.set]
  intro w2 br hr x2 kr
  have X2 := Ext.trans X1 x2
  have z2 := x2.size
  replace kp := kp.ext x2
  have lr := kr.lt
  refine wp_next (wp_region_then ?_)
  refine wpList_loadA arrK (.tmp 1) bp _ kp (size_cellsF _ _) rfl rfl rfl ?_
  simp only [Act.put, List.setIfInBounds_toArray, List.set]
  refine wpList_allocA 34 _ _ zeroP rfl rfl ?_
  simp only [Act.put, List.setIfInBounds_toArray, List.set]
  intro w3 bx hx x3 kx
  have X3 := Ext.trans X2 x3
  have z3 := x3.size
  replace kp := kp.ext x3
  replace kr := kr.ext x3
  have lx := kx.lt
  refine wpList_storeA arrP (.tmp 3) (.tmp 4) bx _ _ kx (size_cellsF _ _) (size_cellsF _ _) (one_cellsF _ _ _) rfl rfl rfl rfl ?_
  simp only [Act.put]
  clear kx
  intro w4 o4 kx
  have X4 := o4.ext X3 (by omega)
  have z4 := o4.size
  replace kp := o4.blk (by omega) kp
  replace kr := o4.blk (by omega) kr
  refine wp_next (wp_region_then ?_)
  refine wpList_call0 _ _ Tryd.func15 (by kernel_rfl) (by kernel_rfl) rfl rfl (ntt_any bx _ _ f kx (hz.ext X4) (by have := hz.lt; omega) hf) ?_
  simp only [Act.put, List.setIfInBounds_toArray, List.set]
  clear kx
  rintro w5 ⟨o5, kx⟩
  have X5 := o5.ext X4 (by omega)
  have z5 := o5.size
  replace kp := o5.blk (by omega) kp
  replace kr := o5.blk (by omega) kr
  refine wp_next (wp_region_then ?_)
  refine wpList_loadA arrP (.tmp 3) bx _ kx (size_cellsF _ _) rfl rfl rfl ?_
  simp only [Act.put, List.setIfInBounds_toArray, List.set]
  refine wpList_storeA arrK (.tmp 2) (.tmp 6) br _ _ kr (size_cellsF _ _) (size_cellsF _ _) (one_cellsF _ _ _) rfl rfl rfl rfl ?_
  simp only [Act.put]
  clear kr
  intro w6 o6 kr
  have X6 := o6.ext X5 (by omega)
  have z6 := o6.size
  replace kp := o6.blk (by omega) kp
  replace kx := o6.blk (by omega) kx
  refine wp_next (wp_ret ?_)
  exact bodyPost_cellA arrK rfl br _ kr (size_cellsF _ _) rfl rfl ⟨rfl, X6⟩

end Go.Proofs.YtgojphoejmbliaaDoor
