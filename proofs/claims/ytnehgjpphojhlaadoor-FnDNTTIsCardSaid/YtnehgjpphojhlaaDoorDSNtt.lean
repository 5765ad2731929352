/- D.NTTD: the reference's transform (Dilithium). -/
import Derived.Test.YtnehgjpphojhlaaDoorDNttP
import Derived.Test.YtnehgjpphojhlaaDoorDSpec
import Derived.Test.YtnehgjpphojhlaaDoorDMod
import Derived.Test.YtnehgjpphojhlaaDoorStore
import Derived.Lib.Hide
namespace Go.Proofs.YtnehgjpphojhlaaDoor
open Go Go.Proofs Go.RowKit Go.Kd
set_option linter.unusedSimpArgs false
set_option linter.unusedVariables false
theorem SD_bd (f : Nat → Int) (hf : ∀ i, i < 256 → 0 ≤ f i ∧ f i < 8380417) : ∀ n i, i < 256 → 0 ≤ SD f n i ∧ SD f n i < 8380417
  | 0, i, hi => hf i hi
  | n + 1, i, hi => by
    show 0 ≤ lay (lenD n) (sA n) (sB n) (SD f n) i ∧ lay (lenD n) (sA n) (sB n) (SD f n) i < 8380417
    unfold lay sA sB
    split <;> omega
set_option maxRecDepth 100000 in
set_option maxHeartbeats 4000000 in
theorem sNTTD_any (f : Nat → Int) (w : World) (hf : ∀ i, i < 256 → 0 ≤ f i ∧ f i < 8380417) :
    Calls Tryd.prog 13 #[.agg (cellsF 256 (ints .i64 f))] w fun e w' => e = .returned (.agg (cellsF 256 (ints .i64 (SD f 8)))) ∧ Ext w w' := by
  go_enter Tryd.func13, Tryd.ntmps13
  refine wp_region_then ?_
  refine wpList_boxA 32 (.tmp 0) _ rfl rfl rfl ?_
  simp only [Act.put, List.setIfInBounds_toArray, List.set]
  intro w1 bb hb x1 kb
  have X1 := Ext.trans (Ext.refl w) x1
  have z1 := x1.size
  have lb := kb.lt
  refine wpList_allocA 32 _ _ zeroS rfl rfl ?_
  simp only [Act.put, List.setIfInBounds_toArray, List.set]
  intro w2 br hr x2 kr
  have X2 := Ext.trans X1 x2
  have z2 := x2.size
  replace kb := kb.ext x2
  have lr := kr.lt
  refine wp_next ?_
  have HX := Lib.hid X2
  have HB := Lib.hid (SD_bd f hf)
  have hb := kb
  have hbr : bb < br := by omega
  have hwb : w.heap.size ≤ bb := by omega
  clear X1 X2 x1 x2 hf kb
  go_wp2_with fail
  go_loopw [4, 3] (fun x y wr => ∃ n : Nat, n ≤ 8 ∧ x = .int .i64 (lenD n : Nat) ∧ y = .int .i64 (2 ^ n - 1 : Nat) ∧ Only bb w2 wr ∧ Blk wr bb 32 (cellsF 256 (ints .i64 (SD f n)))) (fun x _ _ => (intOf x).toNat)
  case atStart => exact ⟨0, by omega, rfl, rfl, Only.refl _ _, hb⟩
  case round =>
    obtain ⟨n, hn, rfl, rfl, hon, hbk⟩ := hrel
    by_cases hn7 : n < 8
    · obtain ⟨l1, l2, l3, l4, k1, k2, k3⟩ := len_facts n hn7
      have hlay : SD f (n + 1) = lay (lenD n) (sA n) (sB n) (SD f n) := rfl
      have hbd := HB.out n
      obtain ⟨N, eN⟩ : ∃ N, N = SD f (n + 1) := ⟨_, rfl⟩
      rw [← eN] at hlay
      obtain ⟨F, eF⟩ : ∃ F, F = SD f n := ⟨_, rfl⟩
      rw [← eF] at hlay hbd hbk
      obtain ⟨l2', el2⟩ : ∃ l2', l2' = lenD (n + 1) := ⟨_, rfl⟩
      rw [← el2] at l3
      have hA : ∀ c m, m < lenD n → N (2 * lenD n * c + m) = (F (2 * lenD n * c + m) + zz (2 ^ n + c) * F (2 * lenD n * c + m + lenD n) % 8380417) % 8380417 := fun c m h => by rw [hlay, lay_lo _ _ _ _ h]; rfl
      have hB : ∀ c m, m < lenD n → N (2 * lenD n * c + m + lenD n) = (F (2 * lenD n * c + m) - zz (2 ^ n + c) * F (2 * lenD n * c + m + lenD n) % 8380417) % 8380417 := fun c m h => by rw [hlay, lay_hi _ _ _ _ h]; rfl
      obtain ⟨l, el⟩ : ∃ l, l = lenD n := ⟨_, rfl⟩
      rw [← el] at l1 l2 l3 l4 hA hB
      obtain ⟨K, eK⟩ : ∃ K, K = 2 ^ n := ⟨_, rfl⟩
      rw [← eK] at l4 k1 k2 k3 hA hB
      have HA := Lib.hid hA
      have HB2 := Lib.hid hB
      have HD := Lib.hid hbd
      have HN := Lib.hid eN
      have HL := Lib.hid el2
      have HK := Lib.hid k3
      have H4 := Lib.hid l4
      have H3 := Lib.hid l3
      simp only [← el, ← eK]
      clear hA hB hbd hlay eF eN el2 k3 l4 l3 el eK hb
      go_wp2_with fail
      have hj1 : decide (1 ≤ (l : Int)) = true := decide_eq_true (by omega)
      try rw [hj1]
      clear hj1
      go_loopw [5, 3] (fun x y wr => ∃ c o : Nat, c ≤ K ∧ o = 2 * l * c ∧ o ≤ 256 ∧ x = .int .i64 (o : Nat) ∧ y = .int .i64 (K - 1 + c : Nat) ∧ Only bb w2 wr ∧ Blk wr bb 32 (cellsF 256 (ints .i64 (mixP o l 0 N F)))) (fun x _ _ => 256 - (intOf x).toNat)
      case atStart => exact ⟨0, 0, by omega, by omega, by omega, rfl, rfl, hon, by rw [mixP_zero]; exact hbk⟩
      case round =>
        clear hon hbk
        obtain ⟨c, o, hc, ho, ho256, rfl, rfl, hon, hbk⟩ := hrel
        by_cases hcK : c < K
        · have ho2 : o + 2 * l ≤ 256 := by
            have h1 : 2 * l * (c + 1) ≤ 2 * l * K := Nat.mul_le_mul_left _ (by omega)
            rw [H4.out, Nat.mul_add, Nat.mul_one, ← ho] at h1
            exact h1
          have hA := fun m h => HA.out c m h
          have hB := fun m h => HB2.out c m h
          rw [← ho] at hA hB
          have HO := Lib.hid ho
          clear ho
          obtain ⟨k, ek⟩ : ∃ k, k = K + c := ⟨_, rfl⟩
          have hk128 : k < 256 := by omega
          obtain ⟨z1, z2⟩ := zz_bd k
          have ZC := fun w => zetaD_any (k : Int) w (by omega)
          rw [← ek] at hA hB
          have ez : pw 1753 8380417 (rv 8 0 (k : Int)).toNat = zz k := rfl
          rw [ez] at ZC
          generalize zz k = z at *
          obtain ⟨k0, ek0⟩ : ∃ k0 : Nat, k0 = K - 1 + c := ⟨_, rfl⟩
          have zk : (k0 : Int) + 1 = (k : Int) := by omega
          have uk : IntKind.i64.wrap (k : Int) = (k : Int) := by rw [IntKind.wrap_i64]; omega
          have HE0 := Lib.hid ek0
          have HE := Lib.hid ek
          have HA1 := Lib.hid hA
          have HB1 := Lib.hid hB
          have HZC := Lib.hid ZC
          simp only [← ek0]
          clear ek ek0 hA hB ez ZC
          go_wp2_with (go_at_call 8; refine (HZC.out _).mono ?_; rintro e w' ⟨rfl, rfl⟩)
          have hj2 : decide ((o : Int) < 256) = true := decide_eq_true (by omega)
          try rw [hj2]
          clear hj2
          go_loopw [7] (fun y wr => ∃ m : Nat, m ≤ l ∧ y = .int .i64 (o + m : Nat) ∧ Only bb w2 wr ∧ Blk wr bb 32 (cellsF 256 (ints .i64 (mixP o l m N F)))) (fun y _ => o + l - (intOf y).toNat)
          case atStart => exact ⟨0, by omega, rfl, hon, hbk⟩
          case round =>
            clear hon hbk
            obtain ⟨m, hm, rfl, hon, hbk⟩ := hrel
            by_cases hml : m < l
            · have hNp := HA1.out m hml
              have hNq := HB1.out m hml
              have hst := mixP_step N F hml (o := o) (l := l)
              have vp := mixP_lo (o := o) N F hml
              have vq := mixP_hi (o := o) (l := l) (m := m) N F
              obtain ⟨p, ep⟩ : ∃ p, p = o + m := ⟨_, rfl⟩
              obtain ⟨q, eq⟩ : ∃ q, q = p + l := ⟨_, rfl⟩
              rw [← ep, ← eq] at hNp hNq
              rw [← ep] at vp
              rw [← ep, ← eq] at vq
              simp only [← ep, ← eq] at hst
              have hp : p < 256 := by omega
              have hq : q < 256 := by omega
              have hpq : p ≠ q := by omega
              have ca : wr.cell? ⟨bb, p, none⟩ = some (.int .i64 (F p)) := by rw [← vp]; exact hbk.cell hp
              have cb : wr.cell? ⟨bb, q, none⟩ = some (.int .i64 (F q)) := by rw [← vq]; exact hbk.cell hq
              obtain ⟨x1, x2⟩ := HD.out p hp
              obtain ⟨y1, y2⟩ := HD.out q hq
              generalize F p = x at *
              generalize F q = y at *
              have pr1 : 0 ≤ z * y := Int.mul_nonneg z1 y1
              have pr2 : z * y ≤ 8380417 * 8380417 := Int.mul_le_mul (by omega) (by omega) y1 (by omega)
              obtain ⟨v, ev⟩ : ∃ v, z * y = v := ⟨_, rfl⟩
              rw [ev] at pr1 pr2 hNp hNq
              have uv : IntKind.i64.wrap v = v := by rw [IntKind.wrap_i64]; omega
              obtain ⟨t, et⟩ : ∃ t, v % 8380417 = t := ⟨_, rfl⟩
              rw [et] at hNp hNq
              have tm : v.tmod 8380417 = t := by rw [Int.tmod_eq_emod_of_nonneg pr1]; exact et
              have t1 : 0 ≤ t ∧ t < 8380417 := by omega
              obtain ⟨d1, ed1⟩ : ∃ d, x - t = d := ⟨_, rfl⟩
              obtain ⟨d2, ed2⟩ : ∃ d, x + t = d := ⟨_, rfl⟩
              rw [ed2] at hNp
              rw [ed1] at hNq
              have M1 := fun w => mod_any d1 w (by omega)
              have M2 := fun w => mod_any d2 w (by omega)
              obtain ⟨s1, es1⟩ : ∃ s, d1 % 8380417 = s := ⟨_, rfl⟩
              obtain ⟨s2, es2⟩ : ∃ s, d2 % 8380417 = s := ⟨_, rfl⟩
              rw [es2] at hNp
              rw [es1] at hNq
              simp only [es1] at M1
              simp only [es2] at M2
              have ud1 : IntKind.i64.wrap d1 = d1 := by rw [IntKind.wrap_i64]; omega
              have ud2 : IntKind.i64.wrap d2 = d2 := by rw [IntKind.wrap_i64]; omega
              have zp : (o : Int) + (m : Int) = (p : Int) := by omega
              have zq : (p : Int) + (l : Int) = (q : Int) := by omega
              have up : IntKind.i64.wrap (p : Int) = (p : Int) := by rw [IntKind.wrap_i64]; omega
              have uq : IntKind.i64.wrap (q : Int) = (q : Int) := by rw [IntKind.wrap_i64]; omega
              have tp : (p : Int) < 256 := by omega
              have tq : (q : Int) < 256 := by omega
              have tpl : (p : Int) < (o : Int) + (l : Int) := by omega
              have HM1 := Lib.hid M1
              have HM2 := Lib.hid M2
              have HVP := Lib.hid vp
              have HNp := Lib.hid hNp
              have HNq := Lib.hid hNq
              have HST := Lib.hid hst
              have HEP := Lib.hid ep
              have HEQ := Lib.hid eq
              clear hNp hNq hst ep eq vp vq M1 M2 es1 es2 et
              have fp := hbk.frozen p
              have fq := hbk.frozen q
              have hqp : q ≠ p := fun h => hpq h.symm
              have mk1 : True := trivial
              go_wp2_with (first | (go_at_call 9; clear mk1; refine (HM1.out _).mono ?_; rintro e w' ⟨rfl, rfl⟩) | (go_at_call 9; refine (HM2.out _).mono ?_; rintro e w' ⟨rfl, rfl⟩))
              go_roundw
              case rel =>
                refine ⟨m + 1, by omega, by go_num, (hon.setCell _).setCell _, ((hbk.setCell q (.int .i64 s1)).setCell p (.int .i64 s2)).congr fun x hx => ?_⟩
                show _ = Value.int .i64 (mixP o l (m + 1) N F x)
                rw [HST.out x]
                by_cases c1 : x = p
                · rw [if_pos c1, if_pos c1, HNp.out]
                · rw [if_neg c1, if_neg c1]
                  by_cases c2 : x = q
                  · rw [if_pos c2, if_pos c2, HNq.out]
                  · rw [if_neg c2, if_neg c2]; rfl
              case measure => simp [intOf]; omega
            · have hml' : m = l := by omega
              subst hml'
              rw [mixP_next] at hbk
              go_wp2_with fail
              go_roundw
              case rel => exact ⟨c + 1, o + 2 * m, by omega, by rw [HO.out, Nat.mul_add, Nat.mul_one], by omega, by go_num, by have h1 := HE.out; go_num, hon, hbk⟩
              case measure => simp [intOf]; omega
        · have hcK' : c = K := by omega
          subst hcK'
          rw [H4.out] at ho
          subst ho
          have hqd : (l : Int).tdiv 2 = (l2' : Int) := by rw [Int.tdiv_eq_ediv_of_nonneg (by omega)]; have h := H3.out; omega
          have uqd : IntKind.i64.wrap (l2' : Int) = (l2' : Int) := by rw [IntKind.wrap_i64]; have h := H3.out; omega
          go_wp2_with fail
          go_roundw
          case rel =>
            refine ⟨n + 1, by omega, by rw [← HL.out], by rw [HK.out]; go_num, hon, ?_⟩
            exact hbk.congr fun i hi => by
              show Value.int .i64 (mixP 256 l 0 N F i) = _
              rw [mixP_all _ _ _ hi, HN.out]; rfl
          case measure => have h := H3.out; simp [intOf]; omega
    · have hn' : n = 8 := by omega
      subst hn'
      have kr2 := hon.blk (by omega) kr
      have HO := Lib.hid hon
      clear hon
      go_wp2_with (first | (refine wpList_loadA arrS (.tmp 1) bb _ hbk (size_cellsF _ _) rfl rfl rfl ?_; simp only [Act.put, List.setIfInBounds_toArray, List.set]) | (refine wpList_storeA arrS (.tmp 2) (.tmp 57) br _ _ kr2 (size_cellsF _ _) (size_cellsF _ _) (one_cellsF _ _ _) rfl rfl rfl rfl ?_; simp only [Act.put]; intro wy oy ky))
      exact bodyPost_cellA arrS rfl br _ ky (size_cellsF _ _) rfl rfl ⟨rfl, oy.ext (HO.out.ext HX.out hwb) (by omega)⟩
end Go.Proofs.YtnehgjpphojhlaaDoor
