/- invNTTGeneric, InvNTT, KInvNTT (Kyber). -/
import Derived.Test.YtgojphoejmbliaaDoorKInvP
import Derived.Test.YtgojphoejmbliaaDoorKNtt
import Derived.Lib.Hide
namespace Go.Proofs.YtgojphoejmbliaaDoor
open Go Go.Proofs Go.RowKit Go.Kd
set_option linter.unusedSimpArgs false
set_option linter.unusedVariables false
theorem RedsIn.lt {w : World} (h : RedsIn w) : 1 < w.heap.size := by
  have h1 := h 0 (by omega)
  rcases Nat.lt_or_ge 1 w.heap.size with h3 | h3
  · exact h3
  · have e : w.heap[1]? = none := Array.getElem?_eq_none h3
    simp [World.cell?, e] at h1
theorem RedsIn.only {w w' : World} {b : Nat} (h : RedsIn w) (hne : 1 ≠ b) (ho : Only b w w') : RedsIn w' := fun j hj => by
  rw [← h j hj]
  simp only [World.cell?, ho.block _ hne]
theorem RedsIn.ext {w w' : World} (h : RedsIn w) (hx : Ext w w') : RedsIn w' := fun j hj => (hx.cell h.lt).trans (h j hj)
/-- the last factor, place by place -/
def IK (f : Nat → Int) (i : Nat) : Int := mont (1441 * GK f 7 i)
set_option maxRecDepth 100000 in
set_option maxHeartbeats 4000000 in
theorem invNTTGeneric_any (b : Nat) (w : World) (T : TypeId) (f : Nat → Int) (hb : Blk w b T (cellsF 256 (ints .i16 f))) (hz : ZetasIn w) (hrd : RedsIn w) (hne : 0 ≠ b) (hne2 : 1 ≠ b) (hf : ∀ i, i < 256 → -3329 ≤ f i ∧ f i ≤ 3329) :
    Calls Tryd.prog 22 #[.pointer (some ⟨b, 0, none⟩)] w fun e w' => e = .returned (.tuple #[]) ∧ Only b w w' ∧ Blk w' b T (cellsF 256 (ints .i16 (IK f))) := by
  have HZ := Lib.hid hz
  have HR := Lib.hid hrd
  have HB := Lib.hid (GK_bd f hf)
  clear hz hrd hf
  go_enter Tryd.func22, Tryd.ntmps22
  go_wp2_with fail
  go_loopw [4, 2, 3] (fun x y z wr => ∃ (n : Nat) (r0 : Int), n ≤ 7 ∧ r0 + 1 = (rstart n : Int) ∧ x = .int .i64 (lenI n : Nat) ∧ y = .int .i64 (128 / 2 ^ n - 1 : Nat) ∧ z = .int .i64 r0 ∧ Only b w wr ∧ Blk wr b T (cellsF 256 (ints .i16 (GK f n)))) (fun x _ _ _ => 256 - (intOf x).toNat)
  case atStart => exact ⟨0, -1, by omega, by decide, rfl, rfl, rfl, Only.refl _ _, hb⟩
  case round =>
    obtain ⟨n, r0, hn, hr0, rfl, rfl, rfl, hon, hbk⟩ := hrel
    by_cases hn7 : n < 7
    · obtain ⟨l1, l2, l3, l4, k1, k2, k3, k4, _⟩ := lenI_facts n hn7
      obtain ⟨rf1, rf2, rf3⟩ := rs_facts n hn7
      have hstep : GK f (n + 1) = redF (lay (lenI n) (iA n) (iB n) (GK f n)) (rstart n) (rcount n) := rfl
      have hbd0 := HB.out n (by omega)
      have hbd : ∀ i, i < 256 → -32767 ≤ GK f n i ∧ GK f n i ≤ 32767 := fun i hi => by have h1 := hbd0 i hi; have h2 := alpha9 n i (by omega) hi; omega
      -- pairs of a layer do not overflow
      have hpair : ∀ i, i < 256 → i % (2 * lenI n) < lenI n → -29961 ≤ GK f n i + GK f n (i + lenI n) ∧ GK f n i + GK f n (i + lenI n) ≤ 29961 ∧ -29961 ≤ GK f n (i + lenI n) - GK f n i ∧ GK f n (i + lenI n) - GK f n i ≤ 29961 := fun i hi h => by
        obtain ⟨d1, _, _⟩ := domI_facts n i hn7 hi
        have h1 := hbd0 i hi
        have h2 := hbd0 (i + lenI n) (d1 h)
        have h3 := ((alpha_step n i hn7 hi).1 h).1
        omega
      obtain ⟨N, eN⟩ : ∃ N, N = lay (lenI n) (iA n) (iB n) (GK f n) := ⟨_, rfl⟩
      rw [← eN] at hstep
      have hNb : ∀ m i, i < 256 → -32768 ≤ redF N (rstart n) m i ∧ redF N (rstart n) m i ≤ 32767 := fun m i hi => by
        have hg : ∀ i, i < 256 → -32768 ≤ N i ∧ N i ≤ 32767 := fun i hi => by
          rw [eN]
          obtain ⟨d1, d2, d3⟩ := domI_facts n i hn7 hi
          unfold lay iA iB
          by_cases h : i % (2 * lenI n) < lenI n
          · rw [if_pos h]; have h1 := hpair i hi h; omega
          · rw [if_neg h]
            have hj : (i - lenI n) % (2 * lenI n) < lenI n := by
              have hn' : n = 0 ∨ n = 1 ∨ n = 2 ∨ n = 3 ∨ n = 4 ∨ n = 5 ∨ n = 6 := by omega
              clear hpair hbd hbd0 hstep eN l1 l2 l3 l4 k1 k2 k3 k4 rf1 rf2 rf3 d3 hb hbk hon hr0
              revert h d1 d2
              rcases hn' with hn' | hn' | hn' | hn' | hn' | hn' | hn' <;> subst hn' <;> simp only [lenI, Nat.reducePow, Nat.reduceMul, Nat.reduceAdd] <;> omega
            have h1 := hpair (i - lenI n) (by omega) hj
            rw [Nat.sub_add_cancel (d2 h)] at h1
            have hk : 128 / 2 ^ n - 1 - i / (2 * lenI n) < 128 := by
              have hq : 128 / 2 ^ n ≤ 128 := Nat.div_le_self _ _
              generalize 128 / 2 ^ n = q at *
              generalize i / (2 * lenI n) = q2 at *
              omega
            have h3 := mont_any_z _ hk (GK f n i - GK f n (i - lenI n)) (by omega)
            omega
        have h := redF_in N (rstart n) hg m i hi
        exact ⟨h.1, h.2.1⟩
      obtain ⟨F, eF⟩ : ∃ F, F = GK f n := ⟨_, rfl⟩
      rw [← eF] at hbd hpair eN hbk
      have hA : ∀ c m, m < lenI n → N (2 * lenI n * c + m) = F (2 * lenI n * c + m) + F (2 * lenI n * c + m + lenI n) := fun c m h => by rw [eN, lay_lo _ _ _ _ h]; rfl
      have hB : ∀ c m, m < lenI n → N (2 * lenI n * c + m + lenI n) = mont (zs.getD (128 / 2 ^ n - 1 - c) 0 * (F (2 * lenI n * c + m + lenI n) - F (2 * lenI n * c + m))) := fun c m h => by rw [eN, lay_hi _ _ _ _ h]; rfl
      have hP : ∀ c m, 2 * lenI n * c + m < 256 → m < lenI n → _ := fun c m hi h => hpair (2 * lenI n * c + m) hi (by rw [Nat.mul_add_mod, Nat.mod_eq_of_lt (by omega)]; exact h)
      obtain ⟨lN, elN⟩ : ∃ lN, lN = lenI (n + 1) := ⟨_, rfl⟩
      rw [← elN] at l3
      obtain ⟨l, el⟩ : ∃ l, l = lenI n := ⟨_, rfl⟩
      simp only [← el] at l1 l2 l3 l4 hA hB hP
      obtain ⟨K, eK⟩ : ∃ K, K = 64 / 2 ^ n := ⟨_, rfl⟩
      rw [← eK] at l4 k1 k2 k3 k4
      obtain ⟨D, eD⟩ : ∃ D, D = 128 / 2 ^ n := ⟨_, rfl⟩
      simp only [← eD] at k3 hB
      obtain ⟨S, eS⟩ : ∃ S, S = rstart n := ⟨_, rfl⟩
      obtain ⟨C, eC⟩ : ∃ C, C = rcount n := ⟨_, rfl⟩
      have hin : ∀ m, m < C → 0 ≤ rs.getD (S + m) 0 ∧ rs.getD (S + m) 0 < 256 := fun m hm => by rw [eS]; exact rs_in n m hn7 (by omega)
      rw [← eS] at hr0 rf1 rf2 rf3 hNb hstep
      rw [← eC] at rf1 rf2 rf3 hstep
      have HIN := Lib.hid hin
      have HA := Lib.hid hA
      have HB2 := Lib.hid hB
      have HD := Lib.hid hbd
      have HP := Lib.hid hP
      have HNB := Lib.hid hNb
      have HS := Lib.hid hstep
      have HL := Lib.hid elN
      have H3 := Lib.hid l3
      have H4 := Lib.hid l4
      have HK4 := Lib.hid k4
      have HR1 := Lib.hid rf1
      have HR2 := Lib.hid rf2
      have HR0 := Lib.hid hr0
      have hKD : D = 2 * K := k3
      simp only [← el, ← eD]
      clear hA hB hbd hbd0 hpair hP hNb hstep eF eN elN l3 l4 k3 k4 el eK eD eS eC hin rf1 rf2 hr0 hb
      go_wp2_with fail
      have hj1 : decide ((l : Int) < 256) = true := decide_eq_true (by omega)
      try rw [hj1]
      clear hj1
      have HKD := Lib.hid hKD
      go_loopw [5, 2] (fun x y wr => ∃ c o k : Nat, c ≤ K ∧ o = 2 * l * c ∧ o ≤ 256 ∧ k + 1 + c = D ∧ x = .int .i64 (o : Nat) ∧ y = .int .i64 (k : Nat) ∧ Only b w wr ∧ Blk wr b T (cellsF 256 (ints .i16 (mixP o l 0 N F)))) (fun x _ _ => 256 - (intOf x).toNat)
      case atStart => exact ⟨0, 0, D - 1, by omega, by omega, by omega, by omega, rfl, rfl, hon, by rw [mixP_zero]; exact hbk⟩
      case round =>
        clear hon hbk
        obtain ⟨c, o, k, hc, ho, ho256, hk, rfl, rfl, hon, hbk⟩ := hrel
        by_cases hcK : c < K
        · have ho2 : o + 2 * l ≤ 256 := by
            have h1 : 2 * l * (c + 1) ≤ 2 * l * K := Nat.mul_le_mul_left _ (by omega)
            rw [H4.out, Nat.mul_add, Nat.mul_one, ← ho] at h1
            exact h1
          have hA := fun m h => HA.out c m h
          have hB := fun m h => HB2.out c m h
          have hP := fun m h1 h2 => HP.out c m h1 h2
          rw [show D - 1 - c = k by omega] at hB
          simp only [← ho] at hA hB hP
          have HO := Lib.hid ho
          clear ho
          have hk128 : k < 128 := by omega
          obtain ⟨k9, ek9⟩ : ∃ k9 : Nat, k = k9 + 1 := ⟨k - 1, by omega⟩
          obtain ⟨z1, z2⟩ := zs_bd k hk128
          have hzc := (HZ.out.only hne hon) k hk128
          have hmp := mont_any_z k hk128
          generalize zs.getD k 0 = z at *
          have zk : (k : Int) - 1 = (k9 : Int) := by omega
          have uk : IntKind.i64.wrap (k9 : Int) = (k9 : Int) := by rw [IntKind.wrap_i64]; omega
          have tk : (k : Int) < 128 := by omega
          have uz : IntKind.i32.wrap z = z := by rw [IntKind.wrap_i32]; omega
          have uz2 : wrap32 z = z := by rw [wrap32_eq]; omega
          have HE := Lib.hid hk
          have HE9 := Lib.hid ek9
          have HM := Lib.hid hmp
          have HA1 := Lib.hid hA
          have HB1 := Lib.hid hB
          have HP1 := Lib.hid hP
          clear hk ek9 hA hB hP hmp
          go_wp2_with fail
          have hj2 : decide ((o : Int) < 256 - (l : Int)) = true := decide_eq_true (by omega)
          try rw [hj2]
          clear hj2
          go_loopw [7] (fun y wr => ∃ m : Nat, m ≤ l ∧ y = .int .i64 (o + m : Nat) ∧ Only b w wr ∧ Blk wr b T (cellsF 256 (ints .i16 (mixP o l m N F)))) (fun y _ => o + l - (intOf y).toNat)
          case atStart => exact ⟨0, by omega, rfl, hon, hbk⟩
          case round =>
            clear hon hbk hzc
            obtain ⟨m, hm, rfl, hon, hbk⟩ := hrel
            by_cases hml : m < l
            · have hNp := HA1.out m hml
              have hNq := HB1.out m hml
              have hPr := HP1.out m (by omega) hml
              have hst := mixP_step N F hml (o := o) (l := l)
              have vp := mixP_lo (o := o) N F hml
              have vq := mixP_hi (o := o) (l := l) (m := m) N F
              obtain ⟨p, ep⟩ : ∃ p, p = o + m := ⟨_, rfl⟩
              obtain ⟨q, eq⟩ : ∃ q, q = p + l := ⟨_, rfl⟩
              rw [← ep, ← eq] at hNp hNq
              simp only [← ep, ← eq] at hPr
              rw [← ep] at vp
              rw [← ep, ← eq] at vq
              simp only [← ep, ← eq] at hst
              have hp : p < 256 := by omega
              have hq : q < 256 := by omega
              have hpq : p ≠ q := by omega
              have ca : wr.cell? ⟨b, p, none⟩ = some (.int .i16 (F p)) := by rw [← vp]; exact hbk.cell hp
              have cb : wr.cell? ⟨b, q, none⟩ = some (.int .i16 (F q)) := by rw [← vq]; exact hbk.cell hq
              generalize F p = x at *
              generalize F q = y at *
              obtain ⟨g1, g2, g3, g4⟩ := hPr
              have hmo := HM.out (y - x) (by omega)
              obtain ⟨t, et⟩ : ∃ t, y - x = t := ⟨_, rfl⟩
              rw [et] at hNq hmo g3 g4
              have ut : IntKind.i16.wrap t = t := by rw [wrap_i16']; omega
              have ut3 : IntKind.i32.wrap t = t := by rw [IntKind.wrap_i32]; omega
              have ut2 : wrap32 t = t := by rw [wrap32_eq]; omega
              have hpr := prod_bd z t 32767 ⟨z1, z2⟩ (by omega)
              have MC := fun w => mont_any (z * t) w (by omega)
              obtain ⟨s2, es2⟩ : ∃ s, s = mont (z * t) := ⟨_, rfl⟩
              rw [← es2] at hNq hmo
              simp only [← es2] at MC
              obtain ⟨v, ev⟩ : ∃ v, z * t = v := ⟨_, rfl⟩
              rw [ev] at hpr
              simp only [ev] at MC
              have uv : IntKind.i32.wrap v = v := by rw [IntKind.wrap_i32]; omega
              have uv2 : wrap32 v = v := by rw [wrap32_eq]; omega
              obtain ⟨s1, es1⟩ : ∃ s, x + y = s := ⟨_, rfl⟩
              rw [es1] at hNp g1 g2
              have us1 : IntKind.i16.wrap s1 = s1 := by rw [wrap_i16']; omega
              have zp : (o : Int) + (m : Int) = (p : Int) := by omega
              have zq : (p : Int) + (l : Int) = (q : Int) := by omega
              have up : IntKind.i64.wrap (p : Int) = (p : Int) := by rw [IntKind.wrap_i64]; omega
              have uq : IntKind.i64.wrap (q : Int) = (q : Int) := by rw [IntKind.wrap_i64]; omega
              have tp : (p : Int) < 256 := by omega
              have tq : (q : Int) < 256 := by omega
              have tpl : (p : Int) < (o : Int) + (l : Int) := by omega
              have HMC := Lib.hid MC
              have HNp := Lib.hid hNp
              have HNq := Lib.hid hNq
              have HST := Lib.hid hst
              have HEP := Lib.hid ep
              have HEQ := Lib.hid eq
              clear hNp hNq hst ep eq vp vq MC es2 hmo hpr
              go_wp2_with fail
              have ca3 : ({ heap := wr.heap, tape := wr.tape, drawn := wr.drawn + 1 + 1, os := wr.os, output := wr.output } : World).cell? ⟨b, p, none⟩ = some (.int .i16 x) := ca
              have cb3 : ({ heap := wr.heap, tape := wr.tape, drawn := wr.drawn + 1 + 1, os := wr.os, output := wr.output } : World).cell? ⟨b, q, none⟩ = some (.int .i16 y) := cb
              go_still_tail 13, (by kernel_rfl)
              go_wp2_with fail
              go_still_tail 15, (by kernel_rfl)
              refine wpList_storeI info16 (.tmp 64) (.tmp 62) b p .i16 s1 hbk.drew.drew hp rfl rfl rfl rfl ?_
              intro w2 o2 k2
              have on2 := hon.drew.drew.trans o2
              clear ca cb ca3 cb3
              simp only [Act.put]
              go_wp2_with fail
              go_still_tail 11, mixed
              still_call (Calls.mono (HMC.out _) fun _ _ ⟨h1, h2⟩ => ⟨h1, h2.symm⟩)
              repeat still_step
              refine wpStill_nil ?_
              refine wpList_storeI info16 (.tmp 75) (.tmp 73) b q .i16 s2 k2.drew hq rfl rfl rfl rfl ?_
              intro w3 o3 k3
              have on3 := on2.drew.trans o3
              simp only [Act.put]
              go_wp2_with fail
              go_roundw
              case rel =>
                refine ⟨m + 1, by omega, by go_num, on3, k3.congr fun x hx => ?_⟩
                show _ = Value.int .i16 (mixP o l (m + 1) N F x)
                rw [HST.out x]
                by_cases c2 : x = q
                · rw [if_pos c2, if_neg (by rw [c2]; exact fun h => hpq h.symm), if_pos c2, HNq.out]
                · rw [if_neg c2]
                  by_cases c1 : x = p
                  · rw [if_pos c1, if_pos c1, HNp.out]
                  · rw [if_neg c1, if_neg c1, if_neg c2]; rfl
              case measure => simp [intOf]; omega
            · have hml' : m = l := by omega
              subst hml'
              rw [mixP_next] at hbk
              go_wp2_with fail
              go_roundw
              case rel => exact ⟨c + 1, o + 2 * m, k9, by omega, by rw [HO.out, Nat.mul_add, Nat.mul_one], by omega, by have h1 := HE.out; have h2 := HE9.out; omega, by go_num, by go_num, hon, hbk⟩
              case measure => simp [intOf]; omega
        · have hcK' : c = K := by omega
          subst hcK'
          rw [H4.out] at ho
          subst ho
          have hbk0 : Blk wr b T (cellsF 256 (ints .i16 (redF N S 0))) := hbk.congr fun i hi => by
            show Value.int .i16 (mixP 256 l 0 N F i) = _
            rw [mixP_all _ _ _ hi]; rfl
          have hk2 : k = 128 / 2 ^ (n + 1) - 1 := by rw [HK4.out]; have := HKD.out; omega
          have HK2 := Lib.hid hk2
          clear hbk hk hk2 hKD
          go_wp2_with fail
          have hj3 : decide ((256 : Int) < 256 - (l : Int)) = false := decide_eq_false (by omega)
          try rw [hj3]
          clear hj3
          have hc256 : ((256 : Nat) : Int) = 256 := rfl
          try rw [hc256]
          clear hc256
          go_loopw [3] (fun y wr => ∃ (m : Nat) (r1 : Int), m ≤ C ∧ r1 + 1 = ((S + m : Nat) : Int) ∧ y = .int .i64 r1 ∧ Only b w wr ∧ Blk wr b T (cellsF 256 (ints .i16 (redF N S m)))) (fun y _ => 79 - (intOf y + 1).toNat)
          case atStart => exact ⟨0, r0, by omega, by have := HR0.out; omega, rfl, hon, hbk0⟩
          case round =>
            clear hon hbk0
            obtain ⟨m, r1, hm, hr1, rfl, hon, hbk⟩ := hrel
            obtain ⟨e, ee⟩ : ∃ e, e = S + m := ⟨_, rfl⟩
            rw [← ee] at hr1
            have he79 : e < 79 := by omega
            have hrc := (HR.out.only hne2 hon) e he79
            have ue : IntKind.i64.wrap (e : Int) = (e : Int) := by rw [IntKind.wrap_i64]; omega
            have te : (e : Int) < 79 := by omega
            by_cases hmC : m < C
            · obtain ⟨v1, v2⟩ := HIN.out m hmC
              rw [← ee] at v1 v2
              obtain ⟨p, ep⟩ : ∃ p : Nat, rs.getD e 0 = (p : Int) := ⟨(rs.getD e 0).toNat, by omega⟩
              rw [ep] at hrc v1 v2
              have hp : p < 256 := by omega
              obtain ⟨x1, x2⟩ := HNB.out m p hp
              have ca : wr.cell? ⟨b, p, none⟩ = some (.int .i16 (redF N S m p)) := hbk.cell hp
              have hred : ∀ i, redF N S (m + 1) i = if i = p then barrett (redF N S m p) else redF N S m i := fun i => by
                show (if i = (rs.getD (S + m) 0).toNat then _ else _) = _
                rw [← ee, ep, Int.toNat_natCast]
                by_cases h : i = p
                · rw [if_pos h, if_pos h, h]
                · rw [if_neg h, if_neg h]
              have MC := fun w => barrett_any (redF N S m p) w ⟨x1, x2⟩
              generalize redF N S m p = x at *
              obtain ⟨s2, es2⟩ : ∃ s, s = barrett x := ⟨_, rfl⟩
              rw [← es2] at hred
              simp only [← es2] at MC
              have tp : (p : Int) < 256 := by omega
              have tp0 : ¬ (p : Int) < 0 := by omega
              have HMC := Lib.hid MC
              have HRD := Lib.hid hred
              have HEE := Lib.hid ee
              clear hred MC es2 ee ep
              go_wp2_with fail
              go_still_tail 10, mixed
              still_call (Calls.mono (HMC.out _) fun _ _ ⟨h1, h2⟩ => ⟨h1, h2.symm⟩)
              repeat still_step
              refine wpStill_nil ?_
              refine wpList_storeI info16 (.tmp 92) (.tmp 90) b p .i16 s2 hbk.drew hp rfl rfl rfl rfl ?_
              intro w3 o3 k3
              have on3 := hon.drew.trans o3
              simp only [Act.put]
              go_wp2_with fail
              go_roundw
              case rel =>
                refine ⟨m + 1, (e : Int), by omega, by have := HEE.out; omega, by go_num, on3, k3.congr fun x hx => ?_⟩
                show _ = Value.int .i16 (redF N S (m + 1) x)
                rw [HRD.out x]
                by_cases c1 : x = p
                · rw [if_pos c1, if_pos c1]
                · rw [if_neg c1, if_neg c1]; rfl
              case measure => simp [intOf]; omega
            · have hmC' : m = C := by omega
              subst hmC'
              have hv : rs.getD e 0 = -1 := by rw [ee]; exact HR2.out
              rw [hv] at hrc
              have HEE := Lib.hid ee
              clear ee hv
              go_wp2_with fail
              go_roundw
              case rel =>
                refine ⟨n + 1, (e : Int), by omega, by rw [HR1.out, HEE.out]; omega, by rw [← HL.out]; have h := H3.out; go_num, by rw [← HK2.out], by go_num, hon, ?_⟩
                rw [HS.out]
                exact hbk
              case measure => have h := H3.out; simp [intOf]; omega
    · have hn' : n = 7 := by omega
      subst hn'
      have hbd : ∀ i, i < 256 → -29961 ≤ GK f 7 i ∧ GK f 7 i ≤ 29961 := fun i hi => by
        have h1 := HB.out 7 (by omega) i hi
        have h2 := alpha9 7 i (by omega) hi
        omega
      have HD := Lib.hid hbd
      clear hbd
      go_wp2_with fail
      have HON := Lib.hid hon
      have hj4 : decide (((lenI 7 : Nat) : Int) < 256) = false := by decide
      try rw [hj4]
      clear hj4
      have hk7 : ((128 / 2 ^ 7 - 1 : Nat) : Int) = 0 := rfl
      try rw [hk7]
      clear hk7
      go_loopw [10] (fun i wr2 => ∃ j : Nat, j ≤ 256 ∧ i = .int .i64 j ∧ Only b w wr2 ∧ Blk wr2 b T (cellsF 256 (upto j (ints .i16 (IK f)) (ints .i16 (GK f 7))))) (fun i _ => 256 - (intOf i).toNat)
      case atStart => exact ⟨0, by omega, rfl, hon, by rw [upto_zero]; exact hbk⟩
      case round =>
        clear hon hbk
        obtain ⟨j, hj, rfl, hon, hbk⟩ := hrel
        by_cases hlt : j < 256
        · obtain ⟨x1, x2⟩ := HD.out j hlt
          have ca : wr.cell? ⟨b, j, none⟩ = some (.int .i16 (GK f 7 j)) := by have h := hbk.cell hlt; rw [upto_at] at h; exact h
          have hfin : IK f j = mont (1441 * GK f 7 j) := rfl
          generalize GK f 7 j = x at *
          have MC := fun w => mont_any (1441 * x) w (by omega)
          obtain ⟨s2, es2⟩ : ∃ s, s = mont (1441 * x) := ⟨_, rfl⟩
          rw [← es2] at hfin
          simp only [← es2] at MC
          have ux : IntKind.i32.wrap x = x := by rw [IntKind.wrap_i32]; omega
          have ux2 : wrap32 x = x := by rw [wrap32_eq]; omega
          obtain ⟨v, ev⟩ : ∃ v, 1441 * x = v := ⟨_, rfl⟩
          simp only [ev] at MC
          have uv : IntKind.i32.wrap v = v := by rw [IntKind.wrap_i32]; omega
          have uv2 : wrap32 v = v := by rw [wrap32_eq]; omega
          have HMC := Lib.hid MC
          have HF := Lib.hid hfin
          clear MC es2 hfin
          go_wp2_with fail
          go_still_tail 12, mixed
          still_call (Calls.mono (HMC.out _) fun _ _ ⟨h1, h2⟩ => ⟨h1, h2.symm⟩)
          repeat still_step
          refine wpStill_nil ?_
          refine wpList_storeI info16 (.tmp 108) (.tmp 106) b j .i16 s2 hbk.drew hlt rfl rfl rfl rfl ?_
          intro w3 o3 k3
          have on3 := hon.drew.trans o3
          simp only [Act.put]
          go_wp2_with fail
          go_roundw
          case rel =>
            refine ⟨j + 1, by omega, by go_num, on3, ?_⟩
            rw [← upto_set (j := j) (g := ints .i16 (IK f)) (f := ints .i16 (GK f 7)) (v := .int .i16 s2) (by show _ = Value.int _ _; rw [HF.out])]
            exact k3
          case measure => simp [intOf]; omega
        · have hj' : j = 256 := by omega
          subst hj'
          go_wp2_with fail
          go_end0
          exact ⟨rfl, hon, by rw [upto_all] at hbk; exact hbk⟩
theorem invNTT_any (b : Nat) (w : World) (T : TypeId) (f : Nat → Int) (hb : Blk w b T (cellsF 256 (ints .i16 f))) (hz : ZetasIn w) (hrd : RedsIn w) (hne : 0 ≠ b) (hne2 : 1 ≠ b) (hf : ∀ i, i < 256 → -3329 ≤ f i ∧ f i ≤ 3329) :
    Calls Tryd.prog 18 #[.pointer (some ⟨b, 0, none⟩)] w fun e w' => e = .returned (.tuple #[]) ∧ Only b w w' ∧ Blk w' b T (cellsF 256 (ints .i16 (IK f))) := by
  have H := Lib.hid (invNTTGeneric_any b w T f hb hz hrd hne hne2 hf)
  clear hb hz hrd hf
  go_enter Tryd.func18, Tryd.ntmps18
  go_wp2_with (go_at_call 22; refine H.out.mono ?_; rintro e w' ⟨rfl, hq⟩)
  go_end0
  exact ⟨rfl, hq⟩
/-- the wrapper of a method -/
theorem kInvNTT_any (f : Nat → Int) (w : World) (hz : ZetasIn w) (hrd : RedsIn w) (hf : ∀ i, i < 256 → -3329 ≤ f i ∧ f i ≤ 3329) : Calls Tryd.prog 12 #[.agg (cellsF 256 (ints .i16 f))] w fun e w' => e = .returned (.agg (cellsF 256 (ints .i16 (IK f)))) ∧ Ext w w' := by
  go_enter Tryd.func12, Tryd.ntmps12
  refine wp_region_then ?_
  refine wpList_boxA 23 (.tmp 0) _ rfl rfl rfl ?_
  simp only [Act.put, List.setIfInBounds_toArray, List.set]
  intro w1 bp hp x1 kp
  have X1 := Ext.trans (Ext.refl w) x1
  have z1 := x1.size
  have lp := kp.lt
  refine wpList_allocA 23 _ _ zeroK rfl rfl ?_
  simp only [Act.put, List.setIfInBounds_toArray, List.set]
  intro w2 br hr x2 kr
  have X2 := Ext.trans X1 x2
  have z2 := x2.size
  replace kp := kp.ext x2
  have lr := kr.lt
  refine wp_next (wp_region_then ?_)
  refine wpList_loadA arrK (.tmp 1) bp _ kp (size_cellsF _ _) rfl rfl rfl ?_
  simp only [Act.put, List.setIfInBounds_toArray, List.set]
  refine wpList_allocA 34 _ _ zeroP rfl rfl ?_
  simp only [Act.put, List.setIfInBounds_toArray, List.set]
  intro w3 bx hx x3 kx
  have X3 := Ext.trans X2 x3
  have z3 := x3.size
  replace kp := kp.ext x3
  replace kr := kr.ext x3
  have lx := kx.lt
  refine wpList_storeA arrP (.tmp 3) (.tmp 4) bx _ _ kx (size_cellsF _ _) (size_cellsF _ _) (one_cellsF _ _ _) rfl rfl rfl rfl ?_
  simp only [Act.put]
  clear kx
  intro w4 o4 kx
  have X4 := o4.ext X3 (by omega)
  have z4 := o4.size
  replace kp := o4.blk (by omega) kp
  replace kr := o4.blk (by omega) kr
  refine wp_next (wp_region_then ?_)
  refine wpList_call0 _ _ Tryd.func18 (by kernel_rfl) (by kernel_rfl) rfl rfl (invNTT_any bx _ _ f kx (hz.ext X4) (hrd.ext X4) (by have := hz.lt; omega) (by have := hrd.lt; omega) hf) ?_
  simp only [Act.put, List.setIfInBounds_toArray, List.set]
  clear kx
  rintro w5 ⟨o5, kx⟩
  have X5 := o5.ext X4 (by omega)
  have z5 := o5.size
  replace kp := o5.blk (by omega) kp
  replace kr := o5.blk (by omega) kr
  refine wp_next (wp_region_then ?_)
  refine wpList_loadA arrP (.tmp 3) bx _ kx (size_cellsF _ _) rfl rfl rfl ?_
  simp only [Act.put, List.setIfInBounds_toArray, List.set]
  refine wpList_storeA arrK (.tmp 2) (.tmp 6) br _ _ kr (size_cellsF _ _) (size_cellsF _ _) (one_cellsF _ _ _) rfl rfl rfl rfl ?_
  simp only [Act.put]
  clear kr
  intro w6 o6 kr
  have X6 := o6.ext X5 (by omega)
  have z6 := o6.size
  replace kp := o6.blk (by omega) kp
  replace kx := o6.blk (by omega) kx
  refine wp_next (wp_ret ?_)
  exact bodyPost_cellA arrK rfl br _ kr (size_cellsF _ _) rfl rfl ⟨rfl, X6⟩

end Go.Proofs.YtgojphoejmbliaaDoor
