/- invNttGeneric, InvNTT, DInvNTT (Dilithium). -/
import Derived.Test.YtnehgjpphojhlaaDoorDNtt
import Derived.Lib.Hide
namespace Go.Proofs.YtnehgjpphojhlaaDoor
open Go Go.Proofs Go.RowKit Go.Kd
set_option linter.unusedSimpArgs false
set_option linter.unusedVariables false
theorem InvZetasIn.lt {w : World} (h : InvZetasIn w) : 0 < w.heap.size := by
  have h1 := h 0 (by omega)
  rcases Nat.lt_or_ge 0 w.heap.size with h3 | h3
  · exact h3
  · have e : w.heap[0]? = none := Array.getElem?_eq_none h3
    simp [World.cell?, e] at h1
theorem InvZetasIn.only {w w' : World} {b : Nat} (h : InvZetasIn w) (hne : 0 ≠ b) (ho : Only b w w') : InvZetasIn w' := fun j hj => by
  rw [← h j hj]
  simp only [World.cell?, ho.block _ hne]
theorem InvZetasIn.ext {w w' : World} (h : InvZetasIn w) (hx : Ext w w') : InvZetasIn w' := fun j hj => (hx.cell h.lt).trans (h j hj)
set_option maxRecDepth 100000 in
set_option maxHeartbeats 4000000 in
theorem invNttGeneric_any (b : Nat) (w : World) (T : TypeId) (f : Nat → Int) (hb : Blk w b T (cellsF 256 (ints .u32 f))) (hz : InvZetasIn w) (hne : 0 ≠ b) (hf : ∀ i, i < 256 → 0 ≤ f i ∧ f i < 16760834) :
    Calls Tryd.prog 28 #[.pointer (some ⟨b, 0, none⟩)] w fun e w' => e = .returned (.tuple #[]) ∧ Only b w w' ∧ Blk w' b T (cellsF 256 (ints .u32 (ID f))) := by
  have HZ := Lib.hid hz
  have HB := Lib.hid (GD_bd f hf)
  clear hz hf
  go_enter Tryd.func28, Tryd.ntmps28
  go_wp2_with fail
  go_loopw [3, 2] (fun x y wr => ∃ n : Nat, n ≤ 8 ∧ x = .int .u64 (lenI n : Nat) ∧ y = .int .i64 (istart n : Nat) ∧ Only b w wr ∧ Blk wr b T (cellsF 256 (ints .u32 (GD f n)))) (fun x _ _ => 256 - (intOf x).toNat)
  case atStart => exact ⟨0, by omega, rfl, rfl, Only.refl _ _, hb⟩
  case round =>
    obtain ⟨n, hn, rfl, rfl, hon, hbk⟩ := hrel
    by_cases hn7 : n < 8
    · obtain ⟨l1, l2, l3, l4, k1, k2, k3, k4, _⟩ := lenI_facts n hn7
      obtain ⟨q1, q2, _⟩ := pow_facts n hn7
      have hlay : GD f (n + 1) = lay (lenI n) (iA n) (iB n) (GD f n) := rfl
      have hbd0 := HB.out n (by omega)
      have hbd : ∀ i, i < 256 → 0 ≤ GD f n i ∧ GD f n i < 2145386752 := fun i hi => by
        have h := hbd0 i hi
        generalize (2 : Int) ^ n = P at *
        omega
      clear hbd0 q1 q2
      obtain ⟨N, eN⟩ : ∃ N, N = GD f (n + 1) := ⟨_, rfl⟩
      rw [← eN] at hlay
      obtain ⟨F, eF⟩ : ∃ F, F = GD f n := ⟨_, rfl⟩
      rw [← eF] at hlay hbd hbk
      obtain ⟨lN, elN⟩ : ∃ lN, lN = lenI (n + 1) := ⟨_, rfl⟩
      rw [← elN] at l3
      obtain ⟨sN, esN⟩ : ∃ sN, sN = istart (n + 1) := ⟨_, rfl⟩
      rw [← esN] at k3 k4
      have hA : ∀ c m, m < lenI n → N (2 * lenI n * c + m) = F (2 * lenI n * c + m) + F (2 * lenI n * c + m + lenI n) := fun c m h => by rw [hlay, lay_lo _ _ _ _ h]; rfl
      have hB : ∀ c m, m < lenI n → N (2 * lenI n * c + m + lenI n) = montD (is.getD (istart n + c) 0 * (F (2 * lenI n * c + m) + (2145386752 - F (2 * lenI n * c + m + lenI n)))) := fun c m h => by rw [hlay, lay_hi _ _ _ _ h]; rfl
      obtain ⟨l, el⟩ : ∃ l, l = lenI n := ⟨_, rfl⟩
      simp only [← el] at l1 l2 l3 l4 hA hB
      obtain ⟨K, eK⟩ : ∃ K, K = 128 / 2 ^ n := ⟨_, rfl⟩
      rw [← eK] at l4 k1 k2 k3
      obtain ⟨S, eS⟩ : ∃ S, S = istart n := ⟨_, rfl⟩
      simp only [← eS] at k3 hB
      have HA := Lib.hid hA
      have HB2 := Lib.hid hB
      have HD := Lib.hid hbd
      have HN := Lib.hid eN
      have HL := Lib.hid elN
      have HSN := Lib.hid esN
      have H3 := Lib.hid l3
      have H4 := Lib.hid l4
      have HK3 := Lib.hid k3
      have hS : S + K ≤ 255 := by omega
      simp only [← el, ← eS]
      clear hA hB hbd hlay eF eN elN esN l3 l4 k3 k4 el eK eS hb
      have w0 : IntKind.u64.wrap (256 - (l : Int)) = 256 - (l : Int) := by rw [wrap_u64']; omega
      have w0' : (256 - (l : Int)) % 18446744073709551616 = 256 - (l : Int) := by omega
      go_wp2_with fail
      have hj1 : decide ((l : Int) < 256) = true := decide_eq_true (by omega)
      try rw [hj1]
      clear hj1
      go_loopw [4, 2] (fun x y wr => ∃ c o k : Nat, c ≤ K ∧ o = 2 * l * c ∧ o ≤ 256 ∧ k = S + c ∧ x = .int .u64 (o : Nat) ∧ y = .int .i64 (k : Nat) ∧ Only b w wr ∧ Blk wr b T (cellsF 256 (ints .u32 (mixP o l 0 N F)))) (fun x _ _ => 256 - (intOf x).toNat)
      case atStart => exact ⟨0, 0, S, by omega, by omega, by omega, by omega, rfl, rfl, hon, by rw [mixP_zero]; exact hbk⟩
      case round =>
        clear hon hbk
        obtain ⟨c, o, k, hc, ho, ho256, hk, rfl, rfl, hon, hbk⟩ := hrel
        by_cases hcK : c < K
        · have ho2 : o + 2 * l ≤ 256 := by
            have h1 : 2 * l * (c + 1) ≤ 2 * l * K := Nat.mul_le_mul_left _ (by omega)
            rw [H4.out, Nat.mul_add, Nat.mul_one, ← ho] at h1
            exact h1
          have hA := fun m h => HA.out c m h
          have hB := fun m h => HB2.out c m h
          rw [← hk] at hB
          simp only [← ho] at hA hB
          have HO := Lib.hid ho
          clear ho
          have hk128 : k < 256 := by omega
          obtain ⟨z1, z2⟩ := is_bd k hk128
          have hzc := (HZ.out.only hne hon) k hk128
          generalize is.getD k 0 = z at *
          have tk : (k : Int) < 256 := by omega
          obtain ⟨k9, ek9⟩ : ∃ k9 : Nat, k9 = k + 1 := ⟨_, rfl⟩
          have zk : (k : Int) + 1 = (k9 : Int) := by omega
          have uk : IntKind.i64.wrap (k9 : Int) = (k9 : Int) := by rw [IntKind.wrap_i64]; omega
          have uz : IntKind.u64.wrap (z) = z := by rw [wrap_u64']; omega
          have uz' : (z) % 18446744073709551616 = z := by omega
          have w1 : IntKind.u64.wrap ((o : Int) + (l : Int)) = (o : Int) + (l : Int) := by rw [wrap_u64']; omega
          have w1' : ((o : Int) + (l : Int)) % 18446744073709551616 = (o : Int) + (l : Int) := by omega
          have w3 : IntKind.u64.wrap (2 * (l : Int)) = 2 * (l : Int) := by rw [wrap_u64']; omega
          have w3' : (2 * (l : Int)) % 18446744073709551616 = 2 * (l : Int) := by omega
          have w4 : IntKind.u64.wrap ((o : Int) + 2 * (l : Int)) = (o : Int) + 2 * (l : Int) := by rw [wrap_u64']; omega
          have w4' : ((o : Int) + 2 * (l : Int)) % 18446744073709551616 = (o : Int) + 2 * (l : Int) := by omega
          have HE := Lib.hid hk
          have HE9 := Lib.hid ek9
          have HA1 := Lib.hid hA
          have HB1 := Lib.hid hB
          clear hk ek9 hA hB
          go_wp2_with fail
          have hj2 : decide ((o : Int) < 256 - (l : Int)) = true := decide_eq_true (by omega)
          try rw [hj2]
          clear hj2
          go_loopw [6] (fun y wr => ∃ m : Nat, m ≤ l ∧ y = .int .u64 (o + m : Nat) ∧ Only b w wr ∧ Blk wr b T (cellsF 256 (ints .u32 (mixP o l m N F)))) (fun y _ => o + l - (intOf y).toNat)
          case atStart => exact ⟨0, by omega, rfl, hon, hbk⟩
          case round =>
            clear hon hbk hzc
            obtain ⟨m, hm, rfl, hon, hbk⟩ := hrel
            by_cases hml : m < l
            · have hNp := HA1.out m hml
              have hNq := HB1.out m hml
              have hst := mixP_step N F hml (o := o) (l := l)
              have vp := mixP_lo (o := o) N F hml
              have vq := mixP_hi (o := o) (l := l) (m := m) N F
              obtain ⟨p, ep⟩ : ∃ p, p = o + m := ⟨_, rfl⟩
              obtain ⟨q, eq⟩ : ∃ q, q = p + l := ⟨_, rfl⟩
              rw [← ep, ← eq] at hNp hNq
              rw [← ep] at vp
              rw [← ep, ← eq] at vq
              simp only [← ep, ← eq] at hst
              have hp : p < 256 := by omega
              have hq : q < 256 := by omega
              have hpq : p ≠ q := by omega
              have ca : wr.cell? ⟨b, p, none⟩ = some (.int .u32 (F p)) := by rw [← vp]; exact hbk.cell hp
              have cb : wr.cell? ⟨b, q, none⟩ = some (.int .u32 (F q)) := by rw [← vq]; exact hbk.cell hq
              obtain ⟨g1, g2⟩ := HD.out p hp
              obtain ⟨g3, g4⟩ := HD.out q hq
              have HVQ : mixP o l m N F q = F q := vq
              generalize F p = x at *
              generalize F q = y at *
              obtain ⟨d, ed⟩ : ∃ d, 2145386752 - y = d := ⟨_, rfl⟩
              rw [ed] at hNq
              obtain ⟨t, et⟩ : ∃ t, x + d = t := ⟨_, rfl⟩
              rw [et] at hNq
              have hmo := mont_prod z t ⟨z1, z2⟩ (by omega)
              have hpr := prod_bd z t 4290773503 ⟨z1, z2⟩ (by omega)
              have MC := fun w => montD_any (z * t) w (by omega)
              obtain ⟨s2, es2⟩ : ∃ s, s = montD (z * t) := ⟨_, rfl⟩
              rw [← es2] at hNq hmo
              simp only [← es2] at MC
              obtain ⟨v, ev⟩ : ∃ v, z * t = v := ⟨_, rfl⟩
              rw [ev] at hpr
              simp only [ev] at MC
              obtain ⟨s1, es1⟩ : ∃ s, x + y = s := ⟨_, rfl⟩
              rw [es1] at hNp
              have ud : IntKind.u32.wrap (d) = d := by rw [IntKind.wrap_u32]; omega
              have ud' : (d) % 4294967296 = d := by omega
              have ut : IntKind.u32.wrap (t) = t := by rw [IntKind.wrap_u32]; omega
              have ut' : (t) % 4294967296 = t := by omega
              have ut3 : IntKind.u64.wrap (t) = t := by rw [wrap_u64']; omega
              have ut3' : (t) % 18446744073709551616 = t := by omega
              have uv : IntKind.u64.wrap (v) = v := by rw [wrap_u64']; omega
              have uv' : (v) % 18446744073709551616 = v := by omega
              have us1 : IntKind.u32.wrap (s1) = s1 := by rw [IntKind.wrap_u32]; omega
              have us1' : (s1) % 4294967296 = s1 := by omega
              have up : IntKind.u64.wrap ((p : Int)) = (p : Int) := by rw [wrap_u64']; omega
              have up' : ((p : Int)) % 18446744073709551616 = (p : Int) := by omega
              have uq : IntKind.u64.wrap ((q : Int)) = (q : Int) := by rw [wrap_u64']; omega
              have uq' : ((q : Int)) % 18446744073709551616 = (q : Int) := by omega
              have w5 : IntKind.u64.wrap ((p : Int) + 1) = (p : Int) + 1 := by rw [wrap_u64']; omega
              have w5' : ((p : Int) + 1) % 18446744073709551616 = (p : Int) + 1 := by omega
              have zp : (o : Int) + (m : Int) = (p : Int) := by omega
              have zq : (p : Int) + (l : Int) = (q : Int) := by omega
              have tp : (p : Int) < 256 := by omega
              have tq : (q : Int) < 256 := by omega
              have tpl : (p : Int) < (o : Int) + (l : Int) := by omega
              have HMC := Lib.hid MC
              have HNp := Lib.hid hNp
              have HNq := Lib.hid hNq
              have HST := Lib.hid hst
              have HEP := Lib.hid ep
              have HEQ := Lib.hid eq
              have HVQ2 := Lib.hid HVQ
              clear hNp hNq hst ep eq vp vq MC es2 hmo hpr HVQ
              go_wp2_with fail
              go_still_tail 13, (by kernel_rfl)
              refine wpList_storeI info32 (.tmp 52) (.tmp 50) b p .u32 s1 hbk.drew hp rfl rfl rfl rfl ?_
              intro w2 o2 k2
              have on2 := hon.drew.trans o2
              clear ca cb
              have cb : w2.cell? ⟨b, q, none⟩ = some (.int .u32 y) := by
                have h := k2.cell hq
                rw [if_neg (fun h => hpq h.symm)] at h
                rw [h]
                show some (Value.int .u32 (mixP o l m N F q)) = _
                rw [HVQ2.out]
              simp only [Act.put]
              go_wp2_with fail
              go_still_tail 11, mixed
              still_call (Calls.mono (HMC.out _) fun _ _ ⟨h1, h2⟩ => ⟨h1, h2.symm⟩)
              repeat still_step
              refine wpStill_nil ?_
              refine wpList_storeI info32 (.tmp 73) (.tmp 71) b q .u32 s2 k2.drew hq rfl rfl rfl rfl ?_
              intro w3 o3 k3
              have on3 := on2.drew.trans o3
              simp only [Act.put]
              go_wp2_with fail
              go_roundw
              case rel =>
                refine ⟨m + 1, by omega, by go_num, on3, k3.congr fun x hx => ?_⟩
                show _ = Value.int .u32 (mixP o l (m + 1) N F x)
                rw [HST.out x]
                by_cases c2 : x = q
                · rw [if_pos c2, if_neg (by rw [c2]; exact fun h => hpq h.symm), if_pos c2, HNq.out]
                · rw [if_neg c2]
                  by_cases c1 : x = p
                  · rw [if_pos c1, if_pos c1, HNp.out]
                  · rw [if_neg c1, if_neg c1, if_neg c2]; rfl
              case measure => simp [intOf]; omega
            · have hml' : m = l := by omega
              subst hml'
              rw [mixP_next] at hbk
              go_wp2_with fail
              go_roundw
              case rel => exact ⟨c + 1, o + 2 * m, k9, by omega, by rw [HO.out, Nat.mul_add, Nat.mul_one], by omega, by have h1 := HE.out; have h2 := HE9.out; omega, by go_num, by go_num, hon, hbk⟩
              case measure => simp [intOf]; omega
        · have hcK' : c = K := by omega
          subst hcK'
          rw [H4.out] at ho
          subst ho
          have hk2 : k = sN := by rw [hk]; exact HK3.out
          have HK2 := Lib.hid hk2
          clear hk hk2
          have w6 : IntKind.u64.wrap ((l : Int) * 2) = (l : Int) * 2 := by rw [wrap_u64']; omega
          have w6' : ((l : Int) * 2) % 18446744073709551616 = (l : Int) * 2 := by omega
          have w7 : IntKind.u64.wrap (2 * (l : Int)) = 2 * (l : Int) := by rw [wrap_u64']; omega
          have w7' : (2 * (l : Int)) % 18446744073709551616 = 2 * (l : Int) := by omega
          go_wp2_with fail
          go_roundw
          case rel =>
            refine ⟨n + 1, by omega, by rw [← HL.out]; have h := H3.out; go_num, by rw [← HSN.out, ← HK2.out], hon, ?_⟩
            exact hbk.congr fun i hi => by
              show Value.int .u32 (mixP 256 l 0 N F i) = _
              rw [mixP_all _ _ _ hi, HN.out]; rfl
          case measure => have h := H3.out; simp [intOf]; omega
    · have hn' : n = 8 := by omega
      subst hn'
      have hbd : ∀ i, i < 256 → 0 ≤ GD f 8 i ∧ GD f 8 i < 4290773504 := fun i hi => by
        have h1 := HB.out 8 (by omega) i hi
        omega
      have HD := Lib.hid hbd
      clear hbd
      go_wp2_with fail
      have hj4 : decide (((lenI 8 : Nat) : Int) < 256) = false := by decide
      try rw [hj4]
      clear hj4
      have hk7 : ((istart 8 : Nat) : Int) = 255 := rfl
      try rw [hk7]
      clear hk7
      go_loopw [8] (fun i wr2 => ∃ j : Nat, j ≤ 256 ∧ i = .int .u64 j ∧ Only b w wr2 ∧ Blk wr2 b T (cellsF 256 (upto j (ints .u32 (ID f)) (ints .u32 (GD f 8))))) (fun i _ => 256 - (intOf i).toNat)
      case atStart => exact ⟨0, by omega, rfl, hon, by rw [upto_zero]; exact hbk⟩
      case round =>
        clear hon hbk
        obtain ⟨j, hj, rfl, hon, hbk⟩ := hrel
        by_cases hlt : j < 256
        · obtain ⟨x1, x2⟩ := HD.out j hlt
          have ca : wr.cell? ⟨b, j, none⟩ = some (.int .u32 (GD f 8 j)) := by have h := hbk.cell hlt; rw [upto_at] at h; exact h
          have hfin : ID f j = montD (41978 * GD f 8 j) := rfl
          generalize GD f 8 j = x at *
          have MC := fun w => montD_any (41978 * x) w (by omega)
          obtain ⟨s2, es2⟩ : ∃ s, s = montD (41978 * x) := ⟨_, rfl⟩
          rw [← es2] at hfin
          simp only [← es2] at MC
          obtain ⟨v, ev⟩ : ∃ v, 41978 * x = v := ⟨_, rfl⟩
          simp only [ev] at MC
          have ux : IntKind.u64.wrap (x) = x := by rw [wrap_u64']; omega
          have ux' : (x) % 18446744073709551616 = x := by omega
          have uv : IntKind.u64.wrap (v) = v := by rw [wrap_u64']; omega
          have uv' : (v) % 18446744073709551616 = v := by omega
          have w8 : IntKind.u64.wrap ((j : Int) + 1) = (j : Int) + 1 := by rw [wrap_u64']; omega
          have w8' : ((j : Int) + 1) % 18446744073709551616 = (j : Int) + 1 := by omega
          have HMC := Lib.hid MC
          have HF := Lib.hid hfin
          clear MC es2 hfin
          go_wp2_with fail
          go_still_tail 12, mixed
          still_call (Calls.mono (HMC.out _) fun _ _ ⟨h1, h2⟩ => ⟨h1, h2.symm⟩)
          repeat still_step
          refine wpStill_nil ?_
          refine wpList_storeI info32 (.tmp 89) (.tmp 87) b j .u32 s2 hbk.drew hlt rfl rfl rfl rfl ?_
          intro w3 o3 k3
          have on3 := hon.drew.trans o3
          simp only [Act.put]
          go_wp2_with fail
          go_roundw
          case rel =>
            refine ⟨j + 1, by omega, by go_num, on3, ?_⟩
            rw [← upto_set (j := j) (g := ints .u32 (ID f)) (f := ints .u32 (GD f 8)) (v := .int .u32 s2) (by show _ = Value.int _ _; rw [HF.out])]
            exact k3
          case measure => simp [intOf]; omega
        · have hj' : j = 256 := by omega
          subst hj'
          go_wp2_with fail
          go_end0
          exact ⟨rfl, hon, by rw [upto_all] at hbk; exact hbk⟩
theorem invNTT_any (b : Nat) (w : World) (T : TypeId) (f : Nat → Int) (hb : Blk w b T (cellsF 256 (ints .u32 f))) (hz : InvZetasIn w) (hne : 0 ≠ b) (hf : ∀ i, i < 256 → 0 ≤ f i ∧ f i < 16760834) :
    Calls Tryd.prog 24 #[.pointer (some ⟨b, 0, none⟩)] w fun e w' => e = .returned (.tuple #[]) ∧ Only b w w' ∧ Blk w' b T (cellsF 256 (ints .u32 (ID f))) := by
  have H := Lib.hid (invNttGeneric_any b w T f hb hz hne hf)
  clear hb hz hf
  go_enter Tryd.func24, Tryd.ntmps24
  go_wp2_with (go_at_call 28; refine H.out.mono ?_; rintro e w' ⟨rfl, hq⟩)
  go_end0
  exact ⟨rfl, hq⟩
/-- the wrapper of a method -/
theorem dInvNTT_any (f : Nat → Int) (w : World) (hz : InvZetasIn w) (hf : ∀ i, i < 256 → 0 ≤ f i ∧ f i < 16760834) : Calls Tryd.prog 16 #[.agg (cellsF 256 (ints .u32 f))] w fun e w' => e = .returned (.agg (cellsF 256 (ints .u32 (ID f)))) ∧ Ext w w' := by
  go_enter Tryd.func16, Tryd.ntmps16
  refine wp_region_then ?_
  refine wpList_boxA 28 (.tmp 0) _ rfl rfl rfl ?_
  simp only [Act.put, List.setIfInBounds_toArray, List.set]
  intro w1 bp hp x1 kp
  have X1 := Ext.trans (Ext.refl w) x1
  have z1 := x1.size
  have lp := kp.lt
  refine wpList_allocA 28 _ _ zeroK rfl rfl ?_
  simp only [Act.put, List.setIfInBounds_toArray, List.set]
  intro w2 br hr x2 kr
  have X2 := Ext.trans X1 x2
  have z2 := x2.size
  replace kp := kp.ext x2
  have lr := kr.lt
  refine wp_next (wp_region_then ?_)
  refine wpList_loadA arrK (.tmp 1) bp _ kp (size_cellsF _ _) rfl rfl rfl ?_
  simp only [Act.put, List.setIfInBounds_toArray, List.set]
  refine wpList_allocA 42 _ _ zeroP rfl rfl ?_
  simp only [Act.put, List.setIfInBounds_toArray, List.set]
  intro w3 bx hx x3 kx
  have X3 := Ext.trans X2 x3
  have z3 := x3.size
  replace kp := kp.ext x3
  replace kr := kr.ext x3
  have lx := kx.lt
  refine wpList_storeA arrP (.tmp 3) (.tmp 4) bx _ _ kx (size_cellsF _ _) (size_cellsF _ _) (one_cellsF _ _ _) rfl rfl rfl rfl ?_
  simp only [Act.put]
  clear kx
  intro w4 o4 kx
  have X4 := o4.ext X3 (by omega)
  have z4 := o4.size
  replace kp := o4.blk (by omega) kp
  replace kr := o4.blk (by omega) kr
  refine wp_next (wp_region_then ?_)
  refine wpList_call0 _ _ Tryd.func24 (by kernel_rfl) (by kernel_rfl) rfl rfl (invNTT_any bx _ _ f kx (hz.ext X4) (by have := hz.lt; omega) hf) ?_
  simp only [Act.put, List.setIfInBounds_toArray, List.set]
  clear kx
  rintro w5 ⟨o5, kx⟩
  have X5 := o5.ext X4 (by omega)
  have z5 := o5.size
  replace kp := o5.blk (by omega) kp
  replace kr := o5.blk (by omega) kr
  refine wp_next (wp_region_then ?_)
  refine wpList_loadA arrP (.tmp 3) bx _ kx (size_cellsF _ _) rfl rfl rfl ?_
  simp only [Act.put, List.setIfInBounds_toArray, List.set]
  refine wpList_storeA arrK (.tmp 2) (.tmp 6) br _ _ kr (size_cellsF _ _) (size_cellsF _ _) (one_cellsF _ _ _) rfl rfl rfl rfl ?_
  simp only [Act.put]
  clear kr
  intro w6 o6 kr
  have X6 := o6.ext X5 (by omega)
  have z6 := o6.size
  replace kp := o6.blk (by omega) kp
  replace kx := o6.blk (by omega) kx
  refine wp_next (wp_ret ?_)
  exact bodyPost_cellA arrK rfl br _ kr (size_cellsF _ _) rfl rfl ⟨rfl, X6⟩

end Go.Proofs.YtnehgjpphojhlaaDoor
