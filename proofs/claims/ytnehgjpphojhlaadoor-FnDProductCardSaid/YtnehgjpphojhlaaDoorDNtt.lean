/- nttGeneric, NTT, DNTT (Dilithium). -/
import Derived.Test.YtnehgjpphojhlaaDoorDNttP
import Derived.Test.YtnehgjpphojhlaaDoorDTab
import Derived.Test.YtnehgjpphojhlaaDoorStore
import Derived.Test.YtnehgjpphojhlaaDoorBits
import Derived.Lib.Hide
namespace Go.Proofs.YtnehgjpphojhlaaDoor
open Go Go.Proofs Go.RowKit Go.Kd
set_option linter.unusedSimpArgs false
set_option linter.unusedVariables false
theorem ZetasIn.only {w w' : World} {b : Nat} (h : ZetasIn w) (hne : 1 ≠ b) (ho : Only b w w') : ZetasIn w' := fun j hj => by
  rw [← h j hj]
  simp only [World.cell?, ho.block _ hne]
theorem ZetasIn.ext {w w' : World} (h : ZetasIn w) (hx : Ext w w') : ZetasIn w' := fun j hj => by
  have h1 := h j hj
  have h2 : 1 < w.heap.size := by
    rcases Nat.lt_or_ge 1 w.heap.size with h3 | h3
    · exact h3
    · have e : w.heap[1]? = none := Array.getElem?_eq_none h3
      simp [World.cell?, e] at h1
  exact (hx.cell h2).trans h1
theorem ZetasIn.lt {w : World} (h : ZetasIn w) : 1 < w.heap.size := by
  have h1 := h 0 (by omega)
  rcases Nat.lt_or_ge 1 w.heap.size with h3 | h3
  · exact h3
  · have e : w.heap[1]? = none := Array.getElem?_eq_none h3
    simp [World.cell?, e] at h1
set_option maxRecDepth 100000 in
set_option maxHeartbeats 4000000 in
theorem nttGeneric_any (b : Nat) (w : World) (T : TypeId) (f : Nat → Int) (hb : Blk w b T (cellsF 256 (ints .u32 f))) (hz : ZetasIn w) (hne : 1 ≠ b) (hf : ∀ i, i < 256 → 0 ≤ f i ∧ f i < 16760834) :
    Calls Tryd.prog 27 #[.pointer (some ⟨b, 0, none⟩)] w fun e w' => e = .returned (.tuple #[]) ∧ Only b w w' ∧ Blk w' b T (cellsF 256 (ints .u32 (FD f 8))) := by
  have HZ := Lib.hid hz
  have HB := Lib.hid (FD_bd f hf)
  clear hz hf
  go_enter Tryd.func27, Tryd.ntmps27
  go_wp2_with fail
  go_loopw [3, 2] (fun x y wr => ∃ n : Nat, n ≤ 8 ∧ x = .int .u64 (lenD n : Nat) ∧ y = .int .i64 (2 ^ n - 1 : Nat) ∧ Only b w wr ∧ Blk wr b T (cellsF 256 (ints .u32 (FD f n)))) (fun x _ _ => (intOf x).toNat)
  case atStart => exact ⟨0, by omega, rfl, rfl, Only.refl _ _, hb⟩
  case round =>
    obtain ⟨n, hn, rfl, rfl, hon, hbk⟩ := hrel
    by_cases hn7 : n < 8
    · obtain ⟨l1, l2, l3, l4, k1, k2, k3⟩ := len_facts n hn7
      have hlay : FD f (n + 1) = lay (lenD n) (dA n) (dB n) (FD f n) := rfl
      have hbd0 := HB.out n (by omega)
      have hbd : ∀ i, i < 256 → 0 ≤ FD f n i ∧ FD f n i < 134086672 := fun i hi => by have h := hbd0 i hi; omega
      clear hbd0
      obtain ⟨N, eN⟩ : ∃ N, N = FD f (n + 1) := ⟨_, rfl⟩
      rw [← eN] at hlay
      obtain ⟨F, eF⟩ : ∃ F, F = FD f n := ⟨_, rfl⟩
      rw [← eF] at hlay hbd hbk
      obtain ⟨l2', el2⟩ : ∃ l2', l2' = lenD (n + 1) := ⟨_, rfl⟩
      rw [← el2] at l3
      have hA : ∀ c m, m < lenD n → N (2 * lenD n * c + m) = F (2 * lenD n * c + m) + montD (zs.getD (2 ^ n + c) 0 * F (2 * lenD n * c + m + lenD n)) := fun c m h => by rw [hlay, lay_lo _ _ _ _ h]; rfl
      have hB : ∀ c m, m < lenD n → N (2 * lenD n * c + m + lenD n) = F (2 * lenD n * c + m) + (16760834 - montD (zs.getD (2 ^ n + c) 0 * F (2 * lenD n * c + m + lenD n))) := fun c m h => by rw [hlay, lay_hi _ _ _ _ h]; rfl
      obtain ⟨l, el⟩ : ∃ l, l = lenD n := ⟨_, rfl⟩
      rw [← el] at l1 l2 l3 l4 hA hB
      obtain ⟨K, eK⟩ : ∃ K, K = 2 ^ n := ⟨_, rfl⟩
      rw [← eK] at l4 k1 k2 k3 hA hB
      have HA := Lib.hid hA
      have HB2 := Lib.hid hB
      have HD := Lib.hid hbd
      have HN := Lib.hid eN
      have HL := Lib.hid el2
      have HK := Lib.hid k3
      have H4 := Lib.hid l4
      have H3 := Lib.hid l3
      have hn23 : (n : Int) ≤ 7 := by omega
      simp only [← el, ← eK]
      clear hA hB hbd hlay eF eN el2 k3 l4 l3 el eK hb
      have w0 : IntKind.u64.wrap (256 - (l : Int)) = 256 - (l : Int) := by rw [wrap_u64']; omega
      have w0' : (256 - (l : Int)) % 18446744073709551616 = 256 - (l : Int) := by omega
      go_wp2_with fail
      have hj1 : decide (0 < l) = true := decide_eq_true (by omega)
      try rw [hj1]
      clear hj1
      go_loopw [4, 2] (fun x y wr => ∃ c o : Nat, c ≤ K ∧ o = 2 * l * c ∧ o ≤ 256 ∧ x = .int .u64 (o : Nat) ∧ y = .int .i64 (K - 1 + c : Nat) ∧ Only b w wr ∧ Blk wr b T (cellsF 256 (ints .u32 (mixP o l 0 N F)))) (fun x _ _ => 256 - (intOf x).toNat)
      case atStart => exact ⟨0, 0, by omega, by omega, by omega, rfl, rfl, hon, by rw [mixP_zero]; exact hbk⟩
      case round =>
        clear hon hbk
        obtain ⟨c, o, hc, ho, ho256, rfl, rfl, hon, hbk⟩ := hrel
        by_cases hcK : c < K
        · have ho2 : o + 2 * l ≤ 256 := by
            have h1 : 2 * l * (c + 1) ≤ 2 * l * K := Nat.mul_le_mul_left _ (by omega)
            rw [H4.out, Nat.mul_add, Nat.mul_one, ← ho] at h1
            exact h1
          have hA := fun m h => HA.out c m h
          have hB := fun m h => HB2.out c m h
          rw [← ho] at hA hB
          have HO := Lib.hid ho
          clear ho
          obtain ⟨k, ek⟩ : ∃ k, k = K + c := ⟨_, rfl⟩
          have hk128 : k < 256 := by omega
          obtain ⟨z1, z2⟩ := zs_bd k hk128
          have hzc := (HZ.out.only hne hon) k hk128
          have hmp := fun y h => mont_prod (zs.getD k 0) y (zs_bd k hk128) h
          rw [← ek] at hA hB
          generalize zs.getD k 0 = z at *
          obtain ⟨k0, ek0⟩ : ∃ k0 : Nat, k0 = K - 1 + c := ⟨_, rfl⟩
          have zk : (k0 : Int) + 1 = (k : Int) := by omega
          have uk : IntKind.i64.wrap (k : Int) = (k : Int) := by rw [IntKind.wrap_i64]; omega
          have tk : (k : Int) < 256 := by omega
          have uz : IntKind.u64.wrap z = z := by rw [wrap_u64']; omega
          have uz2 : z % 18446744073709551616 = z := by omega
          have w1 : IntKind.u64.wrap (256 - (l : Int)) = 256 - (l : Int) := by rw [wrap_u64']; omega
          have w1' : (256 - (l : Int)) % 18446744073709551616 = 256 - (l : Int) := by omega
          have w2 : IntKind.u64.wrap ((o : Int) + (l : Int)) = (o : Int) + (l : Int) := by rw [wrap_u64']; omega
          have w2' : ((o : Int) + (l : Int)) % 18446744073709551616 = (o : Int) + (l : Int) := by omega
          have w3 : IntKind.u64.wrap (2 * (l : Int)) = 2 * (l : Int) := by rw [wrap_u64']; omega
          have w3' : (2 * (l : Int)) % 18446744073709551616 = 2 * (l : Int) := by omega
          have w4 : IntKind.u64.wrap ((o : Int) + 2 * (l : Int)) = (o : Int) + 2 * (l : Int) := by rw [wrap_u64']; omega
          have w4' : ((o : Int) + 2 * (l : Int)) % 18446744073709551616 = (o : Int) + 2 * (l : Int) := by omega
          have HE0 := Lib.hid ek0
          have HE := Lib.hid ek
          have HM := Lib.hid hmp
          have HA1 := Lib.hid hA
          have HB1 := Lib.hid hB
          simp only [← ek0]
          clear ek ek0 hA hB hmp
          go_wp2_with fail
          have hj2 : decide ((o : Int) < 256 - (l : Int)) = true := decide_eq_true (by omega)
          try rw [hj2]
          clear hj2
          go_loopw [6] (fun y wr => ∃ m : Nat, m ≤ l ∧ y = .int .u64 (o + m : Nat) ∧ Only b w wr ∧ Blk wr b T (cellsF 256 (ints .u32 (mixP o l m N F)))) (fun y _ => o + l - (intOf y).toNat)
          case atStart => exact ⟨0, by omega, rfl, hon, hbk⟩
          case round =>
            clear hon hbk hzc
            obtain ⟨m, hm, rfl, hon, hbk⟩ := hrel
            by_cases hml : m < l
            · have hNp := HA1.out m hml
              have hNq := HB1.out m hml
              have hst := mixP_step N F hml (o := o) (l := l)
              have vp := mixP_lo (o := o) N F hml
              have vq := mixP_hi (o := o) (l := l) (m := m) N F
              obtain ⟨p, ep⟩ : ∃ p, p = o + m := ⟨_, rfl⟩
              obtain ⟨q, eq⟩ : ∃ q, q = p + l := ⟨_, rfl⟩
              rw [← ep, ← eq] at hNp hNq
              rw [← ep] at vp
              rw [← ep, ← eq] at vq
              simp only [← ep, ← eq] at hst
              have hp : p < 256 := by omega
              have hq : q < 256 := by omega
              have hpq : p ≠ q := by omega
              have ca : wr.cell? ⟨b, p, none⟩ = some (.int .u32 (F p)) := by rw [← vp]; exact hbk.cell hp
              have cb : wr.cell? ⟨b, q, none⟩ = some (.int .u32 (F q)) := by rw [← vq]; exact hbk.cell hq
              obtain ⟨x1, x2⟩ := HD.out p hp
              obtain ⟨y1, y2⟩ := HD.out q hq
              have hmo := HM.out (F q) (by omega)
              have hpr := prod_bd z (F q) 4290773503 ⟨z1, z2⟩ (by omega)
              generalize F p = x at *
              generalize F q = y at *
              have uy : IntKind.u64.wrap y = y := by rw [wrap_u64']; omega
              have uy2 : y % 18446744073709551616 = y := by omega
              have MC := fun w => montD_any (z * y) w (by omega)
              obtain ⟨t, et⟩ : ∃ t, t = montD (z * y) := ⟨_, rfl⟩
              rw [← et] at hNp hNq hmo
              simp only [← et] at MC
              obtain ⟨v, ev⟩ : ∃ v, z * y = v := ⟨_, rfl⟩
              rw [ev] at hpr
              simp only [ev] at MC
              have uv : IntKind.u64.wrap v = v := by rw [wrap_u64']; omega
              have uv2 : v % 18446744073709551616 = v := by omega
              obtain ⟨d, ed⟩ : ∃ d, 16760834 - t = d := ⟨_, rfl⟩
              rw [ed] at hNq
              have ud : IntKind.u32.wrap d = d := by rw [IntKind.wrap_u32]; omega
              have ud2 : d % 4294967296 = d := by omega
              obtain ⟨s1, es1⟩ : ∃ s, x + d = s := ⟨_, rfl⟩
              obtain ⟨s2, es2⟩ : ∃ s, x + t = s := ⟨_, rfl⟩
              rw [es2] at hNp
              rw [es1] at hNq
              have us1 : IntKind.u32.wrap s1 = s1 := by rw [IntKind.wrap_u32]; omega
              have us12 : s1 % 4294967296 = s1 := by omega
              have us2 : IntKind.u32.wrap s2 = s2 := by rw [IntKind.wrap_u32]; omega
              have us22 : s2 % 4294967296 = s2 := by omega
              have zp : (o : Int) + (m : Int) = (p : Int) := by omega
              have zq : (p : Int) + (l : Int) = (q : Int) := by omega
              have up : IntKind.u64.wrap (p : Int) = (p : Int) := by rw [wrap_u64']; omega
              have up2 : (p : Int) % 18446744073709551616 = (p : Int) := by omega
              have uq : IntKind.u64.wrap (q : Int) = (q : Int) := by rw [wrap_u64']; omega
              have uq2 : (q : Int) % 18446744073709551616 = (q : Int) := by omega
              have tp : (p : Int) < 256 := by omega
              have tq : (q : Int) < 256 := by omega
              have tpl : (p : Int) < (o : Int) + (l : Int) := by omega
              have w5 : IntKind.u64.wrap ((p : Int) + 1) = (p : Int) + 1 := by rw [wrap_u64']; omega
              have w5' : ((p : Int) + 1) % 18446744073709551616 = (p : Int) + 1 := by omega
              have HMC := Lib.hid MC
              have HVP := Lib.hid vp
              have HNp := Lib.hid hNp
              have HNq := Lib.hid hNq
              have HST := Lib.hid hst
              have HEP := Lib.hid ep
              have HEQ := Lib.hid eq
              clear hNp hNq hst ep eq vp vq MC et hmo hpr
              go_wp2_with (go_at_call 31; refine (HMC.out _).mono ?_; rintro e w' ⟨rfl, rfl⟩)
              go_still_tail 14, (by kernel_rfl)
              refine wpList_storeI info32 (.tmp 58) (.tmp 56) b q .u32 s1 hbk.drew hq rfl rfl rfl rfl ?_
              intro w2 o2 k2
              have on2 := hon.drew.trans o2
              clear ca cb
              have ca : w2.cell? ⟨b, p, none⟩ = some (.int .u32 x) := by
                have h := k2.cell hp
                rw [if_neg hpq] at h
                rw [h]
                show some (Value.int .u32 (mixP o l m N F p)) = _
                rw [HVP.out]
              simp only [Act.put]
              go_wp2_with fail
              go_still_tail 9, (by kernel_rfl)
              refine wpList_storeI info32 (.tmp 67) (.tmp 65) b p .u32 s2 k2.drew hp rfl rfl rfl rfl ?_
              intro w3 o3 k3
              have on3 := on2.drew.trans o3
              clear ca
              simp only [Act.put]
              go_wp2_with fail
              go_roundw
              case rel =>
                refine ⟨m + 1, by omega, by go_num, on3, k3.congr fun x hx => ?_⟩
                show _ = Value.int .u32 (mixP o l (m + 1) N F x)
                rw [HST.out x]
                by_cases c1 : x = p
                · rw [if_pos c1, if_pos c1, HNp.out]
                · rw [if_neg c1, if_neg c1]
                  by_cases c2 : x = q
                  · rw [if_pos c2, if_pos c2, HNq.out]
                  · rw [if_neg c2, if_neg c2]; rfl
              case measure => simp [intOf]; omega
            · have hml' : m = l := by omega
              subst hml'
              rw [mixP_next] at hbk
              go_wp2_with fail
              go_roundw
              case rel => exact ⟨c + 1, o + 2 * m, by omega, by rw [HO.out, Nat.mul_add, Nat.mul_one], by omega, by go_num, by have h1 := HE.out; go_num, hon, hbk⟩
              case measure => simp [intOf]; omega
        · have hcK' : c = K := by omega
          subst hcK'
          rw [H4.out] at ho
          subst ho
          go_wp2_with fail
          go_roundw
          case rel => 
            refine ⟨n + 1, by omega, by rw [← HL.out]; have h := H3.out; go_num, by rw [HK.out]; go_num, hon, ?_⟩
            exact hbk.congr fun i hi => by
              show Value.int .u32 (mixP 256 l 0 N F i) = _
              rw [mixP_all _ _ _ hi, HN.out]; rfl
          case measure => simp [intOf]; omega
    · have hn' : n = 8 := by omega
      subst hn'
      go_wp2_with fail
      go_end0
      exact ⟨rfl, hon, hbk⟩
theorem ntt_any (b : Nat) (w : World) (T : TypeId) (f : Nat → Int) (hb : Blk w b T (cellsF 256 (ints .u32 f))) (hz : ZetasIn w) (hne : 1 ≠ b) (hf : ∀ i, i < 256 → 0 ≤ f i ∧ f i < 16760834) :
    Calls Tryd.prog 23 #[.pointer (some ⟨b, 0, none⟩)] w fun e w' => e = .returned (.tuple #[]) ∧ Only b w w' ∧ Blk w' b T (cellsF 256 (ints .u32 (FD f 8))) := by
  have H := Lib.hid (nttGeneric_any b w T f hb hz hne hf)
  clear hb hz hf
  go_enter Tryd.func23, Tryd.ntmps23
  go_wp2_with (go_at_call 27; refine H.out.mono ?_; rintro e w' ⟨rfl, hq⟩)
  go_end0
  exact ⟨rfl, hq⟩
/-- the wrapper of a method -/
theorem dNTT_any (f : Nat → Int) (w : World) (hz : ZetasIn w) (hf : ∀ i, i < 256 → 0 ≤ f i ∧ f i < 16760834) : Calls Tryd.prog 11 #[.agg (cellsF 256 (ints .u32 f))] w fun e w' => e = .returned (.agg (cellsF 256 (ints .u32 (FD f 8)))) ∧ Ext w w' := by
  go_enter Tryd.func11, Tryd.ntmps11
  refine wp_region_then ?_
  refine wpList_boxA 28 (.tmp 0) _ rfl rfl rfl ?_
  simp only [Act.put, List.setIfInBounds_toArray, List.set]
  intro w1 bp hp x1 kp
  have X1 := Ext.trans (Ext.refl w) x1
  have z1 := x1.size
  have lp := kp.lt
  refine wpList_allocA 28 _ _ zeroK rfl rfl ?_
  simp only [Act.put, List.setIfInBounds_toArray, List.set]
  intro w2 br hr x2 kr
  have X2 := Ext.trans X1 x2
  have z2 := x2.size
  replace kp := kp.ext x2
  have lr := kr.lt
  refine wp_next (wp_region_then ?_)
  refine wpList_loadA arrK (.tmp 1) bp _ kp (size_cellsF _ _) rfl rfl rfl ?_
  simp only [Act.put, List.setIfInBounds_toArray, List.set]
  refine wpList_allocA 42 _ _ zeroP rfl rfl ?_
  simp only [Act.put, List.setIfInBounds_toArray, List.set]
  intro w3 bx hx x3 kx
  have X3 := Ext.trans X2 x3
  have z3 := x3.size
  replace kp := kp.ext x3
  replace kr := kr.ext x3
  have lx := kx.lt
  refine wpList_storeA arrP (.tmp 3) (.tmp 4) bx _ _ kx (size_cellsF _ _) (size_cellsF _ _) (one_cellsF _ _ _) rfl rfl rfl rfl ?_
  simp only [Act.put]
  clear kx
  intro w4 o4 kx
  have X4 := o4.ext X3 (by omega)
  have z4 := o4.size
  replace kp := o4.blk (by omega) kp
  replace kr := o4.blk (by omega) kr
  refine wp_next (wp_region_then ?_)
  refine wpList_call0 _ _ Tryd.func23 (by kernel_rfl) (by kernel_rfl) rfl rfl (ntt_any bx _ _ f kx (hz.ext X4) (by have := hz.lt; omega) hf) ?_
  simp only [Act.put, List.setIfInBounds_toArray, List.set]
  clear kx
  rintro w5 ⟨o5, kx⟩
  have X5 := o5.ext X4 (by omega)
  have z5 := o5.size
  replace kp := o5.blk (by omega) kp
  replace kr := o5.blk (by omega) kr
  refine wp_next (wp_region_then ?_)
  refine wpList_loadA arrP (.tmp 3) bx _ kx (size_cellsF _ _) rfl rfl rfl ?_
  simp only [Act.put, List.setIfInBounds_toArray, List.set]
  refine wpList_storeA arrK (.tmp 2) (.tmp 6) br _ _ kr (size_cellsF _ _) (size_cellsF _ _) (one_cellsF _ _ _) rfl rfl rfl rfl ?_
  simp only [Act.put]
  clear kr
  intro w6 o6 kr
  have X6 := o6.ext X5 (by omega)
  have z6 := o6.size
  replace kp := o6.blk (by omega) kp
  replace kx := o6.blk (by omega) kx
  refine wp_next (wp_ret ?_)
  exact bodyPost_cellA arrK rfl br _ kr (size_cellsF _ _) rfl rfl ⟨rfl, X6⟩

end Go.Proofs.YtnehgjpphojhlaaDoor
