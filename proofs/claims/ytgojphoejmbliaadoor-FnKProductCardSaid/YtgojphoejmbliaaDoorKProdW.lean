/- mulHatGeneric, MulHat, KMulHat; K.Product (Kyber). -/
import Derived.Test.YtgojphoejmbliaaDoorKNtt
import Derived.Test.YtgojphoejmbliaaDoorKMap
import Derived.Test.YtgojphoejmbliaaDoorKMod
import Derived.Test.YtgojphoejmbliaaDoorKProdP
import Derived.Test.YtgojphoejmbliaaDoorTwo
import Derived.Lib.Hide
namespace Go.Proofs.YtgojphoejmbliaaDoor
open Go Go.Proofs Go.RowKit Go.Kd
set_option linter.unusedSimpArgs false
set_option linter.unusedVariables false
theorem MK_at (f g : Nat → Int) (n : Nat) :
    MK f g (4 * n) = mont (mont (f (4 * n + 1) * g (4 * n + 1)) * zs.getD (64 + n) 0) + mont (f (4 * n) * g (4 * n)) ∧
    MK f g (4 * n + 1) = mont (f (4 * n) * g (4 * n + 1)) + mont (f (4 * n + 1) * g (4 * n)) ∧
    MK f g (4 * n + 2) = -mont (mont (f (4 * n + 3) * g (4 * n + 3)) * zs.getD (64 + n) 0) + mont (f (4 * n + 2) * g (4 * n + 2)) ∧
    MK f g (4 * n + 3) = mont (f (4 * n + 2) * g (4 * n + 3)) + mont (f (4 * n + 3) * g (4 * n + 2)) := by
  have h0 : 64 + 4 * n / 4 = 64 + n := by omega
  have h2 : 64 + (4 * n + 2) / 4 = 64 + n := by omega
  refine ⟨?_, ?_, ?_, ?_⟩ <;> unfold MK
  · rw [if_pos (by omega), h0]
  · rw [if_neg (by omega), if_neg (by omega)]; rfl
  · rw [if_neg (by omega), if_pos (by omega), h2]
  · rw [if_neg (by omega), if_neg (by omega)]; rfl
theorem sq_bd {a b : Int} (ha : 0 ≤ a ∧ a ≤ 3328) (hb : 0 ≤ b ∧ b ≤ 3328) : 0 ≤ a * b ∧ a * b ≤ 3328 * 3328 :=
  ⟨Int.mul_nonneg ha.1 hb.1, Int.mul_le_mul ha.2 hb.2 hb.1 (by omega)⟩
theorem sz_bd {s z : Int} (hs : -3329 ≤ s ∧ s ≤ 3329) (hz : 0 ≤ z ∧ z ≤ 3329) : -(3329 * 3329) ≤ s * z ∧ s * z ≤ 3329 * 3329 := by
  rw [Int.mul_comm s z]; exact prod_bd z s 3329 hz hs
set_option maxRecDepth 100000 in
set_option maxHeartbeats 4000000 in
theorem mulG_any (bp ba bb : Nat) (w : World) (gp : Nat → Value) (fa fb : Nat → Int) (T1 T2 T3 : TypeId) (hp : Blk w bp T1 (cellsF 256 gp)) (ha : Blk w ba T2 (cellsF 256 (ints .i16 fa))) (hb : Blk w bb T3 (cellsF 256 (ints .i16 fb)))
    (hpa : ba ≠ bp) (hpb : bb ≠ bp) (hz : ZetasIn w) (hne : 0 ≠ bp) (hfa : ∀ i, i < 256 → 0 ≤ fa i ∧ fa i ≤ 3328) (hfb : ∀ i, i < 256 → 0 ≤ fb i ∧ fb i ≤ 3328) :
    Calls Tryd.prog 21 #[.pointer (some ⟨bp, 0, none⟩), .pointer (some ⟨ba, 0, none⟩), .pointer (some ⟨bb, 0, none⟩)] w
      fun e w' => e = .returned (.tuple #[]) ∧ Only bp w w' ∧ Blk w' bp T1 (cellsF 256 (ints .i16 (MK fa fb))) := by
  go_enter Tryd.func21, Tryd.ntmps21
  go_wp2_with fail
  go_loopw [6, 7] (fun x y wr => ∃ n : Nat, n ≤ 64 ∧ x = .int .i64 (64 + n : Nat) ∧ y = .int .i64 (4 * n : Nat) ∧ Only bp w wr ∧ Blk wr bp T1 (cellsF 256 (upto (4 * n) (ints .i16 (MK fa fb)) gp))) (fun _ y _ => 256 - (intOf y).toNat)
  case atStart => exact ⟨0, by omega, rfl, rfl, Only.refl _ _, by rw [Nat.mul_zero, upto_zero]; exact hp⟩
  case round =>
    obtain ⟨n, hn, rfl, rfl, ho, hbk⟩ := hrel
    by_cases hlt : n < 64
    · skip
      obtain ⟨k, ek⟩ : ∃ k, k = 64 + n := ⟨_, rfl⟩
      obtain ⟨p, ep⟩ : ∃ p, p = 4 * n := ⟨_, rfl⟩
      obtain ⟨m0, m1, m2, m3⟩ := MK_at fa fb n
      obtain ⟨p1, ep1⟩ : ∃ q, q = p + 1 := ⟨_, rfl⟩
      obtain ⟨p2, ep2⟩ : ∃ q, q = p + 2 := ⟨_, rfl⟩
      obtain ⟨p3, ep3⟩ : ∃ q, q = p + 3 := ⟨_, rfl⟩
      obtain ⟨p4, ep4⟩ : ∃ q, q = p + 4 := ⟨_, rfl⟩
      obtain ⟨k9, ek9⟩ : ∃ q, q = k + 1 := ⟨_, rfl⟩
      simp only [← ek, ← ep, ← ep1, ← ep2, ← ep3] at m0 m1 m2 m3
      rw [← ep] at hbk
      simp only [← ek, ← ep]
      have hk : k < 128 := by omega
      have hp0 : p < 256 := by omega
      have hp1 : p1 < 256 := by omega
      have hp2 : p2 < 256 := by omega
      have hp3 : p3 < 256 := by omega
      have ba0 := hfa p hp0
      have be0 := hfb p hp0
      have Ca0 : ∀ wz, Only bp w wz → wz.cell? ⟨ba, p, none⟩ = some (.int .i16 (fa p)) := fun wz h => (h.blk hpa ha).cell hp0
      have Ce0 : ∀ wz, Only bp w wz → wz.cell? ⟨bb, p, none⟩ = some (.int .i16 (fb p)) := fun wz h => (h.blk hpb hb).cell hp0
      have ba1 := hfa p1 hp1
      have be1 := hfb p1 hp1
      have Ca1 : ∀ wz, Only bp w wz → wz.cell? ⟨ba, p1, none⟩ = some (.int .i16 (fa p1)) := fun wz h => (h.blk hpa ha).cell hp1
      have Ce1 : ∀ wz, Only bp w wz → wz.cell? ⟨bb, p1, none⟩ = some (.int .i16 (fb p1)) := fun wz h => (h.blk hpb hb).cell hp1
      have ba2 := hfa p2 hp2
      have be2 := hfb p2 hp2
      have Ca2 : ∀ wz, Only bp w wz → wz.cell? ⟨ba, p2, none⟩ = some (.int .i16 (fa p2)) := fun wz h => (h.blk hpa ha).cell hp2
      have Ce2 : ∀ wz, Only bp w wz → wz.cell? ⟨bb, p2, none⟩ = some (.int .i16 (fb p2)) := fun wz h => (h.blk hpb hb).cell hp2
      have ba3 := hfa p3 hp3
      have be3 := hfb p3 hp3
      have Ca3 : ∀ wz, Only bp w wz → wz.cell? ⟨ba, p3, none⟩ = some (.int .i16 (fa p3)) := fun wz h => (h.blk hpa ha).cell hp3
      have Ce3 : ∀ wz, Only bp w wz → wz.cell? ⟨bb, p3, none⟩ = some (.int .i16 (fb p3)) := fun wz h => (h.blk hpb hb).cell hp3
      have hzc := (hz.only hne ho) k hk
      have bz := zs_bd k hk
      have G0 : ints .i16 (MK fa fb) p = .int .i16 (MK fa fb p) := rfl
      have G1 : ints .i16 (MK fa fb) p1 = .int .i16 (MK fa fb p1) := rfl
      have G2 : ints .i16 (MK fa fb) p2 = .int .i16 (MK fa fb p2) := rfl
      have G3 : ints .i16 (MK fa fb) p3 = .int .i16 (MK fa fb p3) := rfl
      obtain ⟨G, eG⟩ : ∃ G, G = ints .i16 (MK fa fb) := ⟨_, rfl⟩
      rw [← eG] at G0 G1 G2 G3 hbk
      rw [m0] at G0
      rw [m1] at G1
      rw [m2] at G2
      rw [m3] at G3
      generalize fa p = a0 at *
      generalize fb p = e0 at *
      generalize fa p1 = a1 at *
      generalize fb p1 = e1 at *
      generalize fa p2 = a2 at *
      generalize fb p2 = e2 at *
      generalize fa p3 = a3 at *
      generalize fb p3 = e3 at *
      generalize zs.getD k 0 = z at *
      have HCa0 := Lib.hid Ca0
      have HCe0 := Lib.hid Ce0
      clear Ca0 Ce0
      have HCa1 := Lib.hid Ca1
      have HCe1 := Lib.hid Ce1
      clear Ca1 Ce1
      have HCa2 := Lib.hid Ca2
      have HCe2 := Lib.hid Ce2
      clear Ca2 Ce2
      have HCa3 := Lib.hid Ca3
      have HCe3 := Lib.hid Ce3
      clear Ca3 Ce3
      have Hep := Lib.hid ep
      have Hep1 := Lib.hid ep1
      have Hep2 := Lib.hid ep2
      have Hep3 := Lib.hid ep3
      have Hep4 := Lib.hid ep4
      have Hek := Lib.hid ek
      have Hek9 := Lib.hid ek9
      have HeG := Lib.hid eG
      have zp1 : (p : Int) + 1 = (p1 : Int) := by omega
      have zp2 : (p : Int) + 2 = (p2 : Int) := by omega
      have zp3 : (p : Int) + 3 = (p3 : Int) := by omega
      have zp4 : (p : Int) + 4 = (p4 : Int) := by omega
      have zk9 : (k : Int) + 1 = (k9 : Int) := by omega
      have up : IntKind.i64.wrap (p : Int) = (p : Int) := by rw [IntKind.wrap_i64]; omega
      have up1 : IntKind.i64.wrap (p1 : Int) = (p1 : Int) := by rw [IntKind.wrap_i64]; omega
      have up2 : IntKind.i64.wrap (p2 : Int) = (p2 : Int) := by rw [IntKind.wrap_i64]; omega
      have up3 : IntKind.i64.wrap (p3 : Int) = (p3 : Int) := by rw [IntKind.wrap_i64]; omega
      have up4 : IntKind.i64.wrap (p4 : Int) = (p4 : Int) := by rw [IntKind.wrap_i64]; omega
      have uk9 : IntKind.i64.wrap (k9 : Int) = (k9 : Int) := by rw [IntKind.wrap_i64]; omega
      have tp : (p : Int) < 256 := by omega
      have tp1 : (p1 : Int) < 256 := by omega
      have tp2 : (p2 : Int) < 256 := by omega
      have tp3 : (p3 : Int) < 256 := by omega
      have tk : (k : Int) < 128 := by omega
      clear m0 m1 m2 m3 ep ep1 ep2 ep3 ep4 ek ek9 eG hp ha hb hpa hpb hz hfa hfb
      have uxa0 : IntKind.i32.wrap a0 = a0 := by rw [IntKind.wrap_i32]; omega
      have uya0 : wrap32 a0 = a0 := by rw [wrap32_eq]; omega
      have uxe0 : IntKind.i32.wrap e0 = e0 := by rw [IntKind.wrap_i32]; omega
      have uye0 : wrap32 e0 = e0 := by rw [wrap32_eq]; omega
      have uxa1 : IntKind.i32.wrap a1 = a1 := by rw [IntKind.wrap_i32]; omega
      have uya1 : wrap32 a1 = a1 := by rw [wrap32_eq]; omega
      have uxe1 : IntKind.i32.wrap e1 = e1 := by rw [IntKind.wrap_i32]; omega
      have uye1 : wrap32 e1 = e1 := by rw [wrap32_eq]; omega
      have uxa2 : IntKind.i32.wrap a2 = a2 := by rw [IntKind.wrap_i32]; omega
      have uya2 : wrap32 a2 = a2 := by rw [wrap32_eq]; omega
      have uxe2 : IntKind.i32.wrap e2 = e2 := by rw [IntKind.wrap_i32]; omega
      have uye2 : wrap32 e2 = e2 := by rw [wrap32_eq]; omega
      have uxa3 : IntKind.i32.wrap a3 = a3 := by rw [IntKind.wrap_i32]; omega
      have uya3 : wrap32 a3 = a3 := by rw [wrap32_eq]; omega
      have uxe3 : IntKind.i32.wrap e3 = e3 := by rw [IntKind.wrap_i32]; omega
      have uye3 : wrap32 e3 = e3 := by rw [wrap32_eq]; omega
      have uxz : IntKind.i32.wrap z = z := by rw [IntKind.wrap_i32]; omega
      have uyz : wrap32 z = z := by rw [wrap32_eq]; omega
      have HG2 := Lib.hid G2
      have HG3 := Lib.hid G3
      clear G2 G3
      have q1 := sq_bd ba1 be1
      have MC1 := fun w => mont_any (a1 * e1) w (by omega)
      have hs1 := mont_bd (a1 * e1) (by omega)
      obtain ⟨s1, es1⟩ : ∃ s, s = mont (a1 * e1) := ⟨_, rfl⟩
      rw [← es1] at G0 hs1
      simp only [← es1] at MC1
      obtain ⟨v1, ev1⟩ : ∃ v, a1 * e1 = v := ⟨_, rfl⟩
      rw [ev1] at q1
      simp only [ev1] at MC1
      have uv1 : IntKind.i32.wrap v1 = v1 := by rw [IntKind.wrap_i32]; omega
      have uw1 : wrap32 v1 = v1 := by rw [wrap32_eq]; omega
      have HMC1 := Lib.hid MC1
      clear MC1 es1
      have uxs1 : IntKind.i32.wrap s1 = s1 := by rw [IntKind.wrap_i32]; omega
      have uys1 : wrap32 s1 = s1 := by rw [wrap32_eq]; omega
      have q2 := sz_bd hs1 bz
      have MC2 := fun w => mont_any (s1 * z) w (by omega)
      have hs2 := mont_bd (s1 * z) (by omega)
      obtain ⟨s2, es2⟩ : ∃ s, s = mont (s1 * z) := ⟨_, rfl⟩
      rw [← es2] at G0 hs2
      simp only [← es2] at MC2
      obtain ⟨v2, ev2⟩ : ∃ v, s1 * z = v := ⟨_, rfl⟩
      rw [ev2] at q2
      simp only [ev2] at MC2
      have uv2 : IntKind.i32.wrap v2 = v2 := by rw [IntKind.wrap_i32]; omega
      have uw2 : wrap32 v2 = v2 := by rw [wrap32_eq]; omega
      have HMC2 := Lib.hid MC2
      clear MC2 es2
      have q3 := sq_bd ba0 be0
      have MC3 := fun w => mont_any (a0 * e0) w (by omega)
      have hs3 := mont_bd (a0 * e0) (by omega)
      obtain ⟨s3, es3⟩ : ∃ s, s = mont (a0 * e0) := ⟨_, rfl⟩
      rw [← es3] at G0 hs3
      simp only [← es3] at MC3
      obtain ⟨v3, ev3⟩ : ∃ v, a0 * e0 = v := ⟨_, rfl⟩
      rw [ev3] at q3
      simp only [ev3] at MC3
      have uv3 : IntKind.i32.wrap v3 = v3 := by rw [IntKind.wrap_i32]; omega
      have uw3 : wrap32 v3 = v3 := by rw [wrap32_eq]; omega
      have HMC3 := Lib.hid MC3
      clear MC3 es3
      have q4 := sq_bd ba0 be1
      have MC4 := fun w => mont_any (a0 * e1) w (by omega)
      have hs4 := mont_bd (a0 * e1) (by omega)
      obtain ⟨s4, es4⟩ : ∃ s, s = mont (a0 * e1) := ⟨_, rfl⟩
      rw [← es4] at G1 hs4
      simp only [← es4] at MC4
      obtain ⟨v4, ev4⟩ : ∃ v, a0 * e1 = v := ⟨_, rfl⟩
      rw [ev4] at q4
      simp only [ev4] at MC4
      have uv4 : IntKind.i32.wrap v4 = v4 := by rw [IntKind.wrap_i32]; omega
      have uw4 : wrap32 v4 = v4 := by rw [wrap32_eq]; omega
      have HMC4 := Lib.hid MC4
      clear MC4 es4
      have q5 := sq_bd ba1 be0
      have MC5 := fun w => mont_any (a1 * e0) w (by omega)
      have hs5 := mont_bd (a1 * e0) (by omega)
      obtain ⟨s5, es5⟩ : ∃ s, s = mont (a1 * e0) := ⟨_, rfl⟩
      rw [← es5] at G1 hs5
      simp only [← es5] at MC5
      obtain ⟨v5, ev5⟩ : ∃ v, a1 * e0 = v := ⟨_, rfl⟩
      rw [ev5] at q5
      simp only [ev5] at MC5
      have uv5 : IntKind.i32.wrap v5 = v5 := by rw [IntKind.wrap_i32]; omega
      have uw5 : wrap32 v5 = v5 := by rw [wrap32_eq]; omega
      have HMC5 := Lib.hid MC5
      clear MC5 es5
      obtain ⟨r0, er0⟩ : ∃ r, s2 + s3 = r := ⟨_, rfl⟩
      rw [er0] at G0
      have ur0 : IntKind.i16.wrap r0 = r0 := by rw [wrap_i16']; omega
      obtain ⟨r1, er1⟩ : ∃ r, s4 + s5 = r := ⟨_, rfl⟩
      rw [er1] at G1
      have ur1 : IntKind.i16.wrap r1 = r1 := by rw [wrap_i16']; omega
      have HG0 := Lib.hid G0
      have HG1 := Lib.hid G1
      clear G0 G1
      have ca0 : wr.cell? ⟨ba, p, none⟩ = some (.int .i16 a0) := HCa0.out _ ho
      have da0 : ∀ d, ({ heap := wr.heap, tape := wr.tape, drawn := d, os := wr.os, output := wr.output } : World).cell? ⟨ba, p, none⟩ = some (.int .i16 a0) := fun _ => ca0
      have fa0 : wr.drew.cell? ⟨ba, p, none⟩ = some (.int .i16 a0) := ca0
      have ce0 : wr.cell? ⟨bb, p, none⟩ = some (.int .i16 e0) := HCe0.out _ ho
      have de0 : ∀ d, ({ heap := wr.heap, tape := wr.tape, drawn := d, os := wr.os, output := wr.output } : World).cell? ⟨bb, p, none⟩ = some (.int .i16 e0) := fun _ => ce0
      have fe0 : wr.drew.cell? ⟨bb, p, none⟩ = some (.int .i16 e0) := ce0
      have ca1 : wr.cell? ⟨ba, p1, none⟩ = some (.int .i16 a1) := HCa1.out _ ho
      have da1 : ∀ d, ({ heap := wr.heap, tape := wr.tape, drawn := d, os := wr.os, output := wr.output } : World).cell? ⟨ba, p1, none⟩ = some (.int .i16 a1) := fun _ => ca1
      have fa1 : wr.drew.cell? ⟨ba, p1, none⟩ = some (.int .i16 a1) := ca1
      have ce1 : wr.cell? ⟨bb, p1, none⟩ = some (.int .i16 e1) := HCe1.out _ ho
      have de1 : ∀ d, ({ heap := wr.heap, tape := wr.tape, drawn := d, os := wr.os, output := wr.output } : World).cell? ⟨bb, p1, none⟩ = some (.int .i16 e1) := fun _ => ce1
      have fe1 : wr.drew.cell? ⟨bb, p1, none⟩ = some (.int .i16 e1) := ce1
      have dr1 : wr.drew.heap = wr.heap := rfl
      have dr2 : wr.drew.os = wr.os := rfl
      have dr3 : wr.drew.output = wr.output := rfl
      have dr4 : wr.drew.tape = wr.tape := rfl
      have dr5 : wr.drew.drawn = wr.drawn + 1 := rfl
      go_wp2_with fail
      go_still_tail 16, mixed
      still_call (Calls.mono (HMC1.out _) fun _ _ ⟨h1, h2⟩ => ⟨h1, h2.symm⟩)
      repeat still_step
      refine wpStill_nil ?_
      go_wp2_with (first | (go_at_call 25; refine (HMC2.out _).mono ?_; rintro e w' ⟨rfl, rfl⟩))
      go_still_tail 16, mixed
      still_call (Calls.mono (HMC3.out _) fun _ _ ⟨h1, h2⟩ => ⟨h1, h2.symm⟩)
      repeat still_step
      refine wpStill_nil ?_
      go_wp2_with fail
      go_still_tail 15, mixed
      still_call (Calls.mono (HMC4.out _) fun _ _ ⟨h1, h2⟩ => ⟨h1, h2.symm⟩)
      repeat still_step
      refine wpStill_nil ?_
      go_wp2_with fail
      go_still_tail 17, mixed
      still_call (Calls.mono (HMC5.out _) fun _ _ ⟨h1, h2⟩ => ⟨h1, h2.symm⟩)
      repeat still_step
      refine wpStill_nil ?_
      go_wp2_with (first | (refine wpList_storeI info16 (.tmp 96) (.tmp 94) bp p .i16 r0 hbk.drew.drew.drew.drew hp0 rfl rfl rfl rfl ?_; intro w2 o2 k2; have on2 := ho.drew.drew.drew.drew.trans o2; simp only [Act.put]; rw [upto_set (j := p) (g := G) (f := gp) (v := .int .i16 r0) HG0.out.symm, ← Hep1.out] at k2) | (refine wpList_storeI info16 (.tmp 102) (.tmp 100) bp p1 .i16 r1 k2 hp1 rfl rfl rfl rfl ?_; intro w3 o3 k3; have on3 := on2.trans o3; simp only [Act.put]; rw [upto_set (j := p1) (g := G) (f := gp) (v := .int .i16 r1) HG1.out.symm] at k3))
      have f12 : p1 + 1 = p2 := by have h1 := Hep1.out; have h2 := Hep2.out; omega
      rw [f12] at k3
      clear f12 k2 hbk ho on2
      clear ca0 da0 fa0 ce0 de0 fe0 ca1 da1 fa1 ce1 de1 fe1 hzc dr1 dr2 dr3 dr4 dr5
      clear HMC1 ev1 uv1 uw1 q1 hs1
      clear HMC2 ev2 uv2 uw2 q2 hs2
      clear HMC3 ev3 uv3 uw3 q3 hs3
      clear HMC4 ev4 uv4 uw4 q4 hs4
      clear HMC5 ev5 uv5 uw5 q5 hs5
      have G2 := HG2.out
      have G3 := HG3.out
      have q6 := sq_bd ba3 be3
      have MC6 := fun w => mont_any (a3 * e3) w (by omega)
      have hs6 := mont_bd (a3 * e3) (by omega)
      obtain ⟨s6, es6⟩ : ∃ s, s = mont (a3 * e3) := ⟨_, rfl⟩
      rw [← es6] at G2 hs6
      simp only [← es6] at MC6
      obtain ⟨v6, ev6⟩ : ∃ v, a3 * e3 = v := ⟨_, rfl⟩
      rw [ev6] at q6
      simp only [ev6] at MC6
      have uv6 : IntKind.i32.wrap v6 = v6 := by rw [IntKind.wrap_i32]; omega
      have uw6 : wrap32 v6 = v6 := by rw [wrap32_eq]; omega
      have HMC6 := Lib.hid MC6
      clear MC6 es6
      have uxs6 : IntKind.i32.wrap s6 = s6 := by rw [IntKind.wrap_i32]; omega
      have uys6 : wrap32 s6 = s6 := by rw [wrap32_eq]; omega
      have q7 := sz_bd hs6 bz
      have MC7 := fun w => mont_any (s6 * z) w (by omega)
      have hs7 := mont_bd (s6 * z) (by omega)
      obtain ⟨s7, es7⟩ : ∃ s, s = mont (s6 * z) := ⟨_, rfl⟩
      rw [← es7] at G2 hs7
      simp only [← es7] at MC7
      obtain ⟨v7, ev7⟩ : ∃ v, s6 * z = v := ⟨_, rfl⟩
      rw [ev7] at q7
      simp only [ev7] at MC7
      have uv7 : IntKind.i32.wrap v7 = v7 := by rw [IntKind.wrap_i32]; omega
      have uw7 : wrap32 v7 = v7 := by rw [wrap32_eq]; omega
      have HMC7 := Lib.hid MC7
      clear MC7 es7
      have q8 := sq_bd ba2 be2
      have MC8 := fun w => mont_any (a2 * e2) w (by omega)
      have hs8 := mont_bd (a2 * e2) (by omega)
      obtain ⟨s8, es8⟩ : ∃ s, s = mont (a2 * e2) := ⟨_, rfl⟩
      rw [← es8] at G2 hs8
      simp only [← es8] at MC8
      obtain ⟨v8, ev8⟩ : ∃ v, a2 * e2 = v := ⟨_, rfl⟩
      rw [ev8] at q8
      simp only [ev8] at MC8
      have uv8 : IntKind.i32.wrap v8 = v8 := by rw [IntKind.wrap_i32]; omega
      have uw8 : wrap32 v8 = v8 := by rw [wrap32_eq]; omega
      have HMC8 := Lib.hid MC8
      clear MC8 es8
      have q9 := sq_bd ba2 be3
      have MC9 := fun w => mont_any (a2 * e3) w (by omega)
      have hs9 := mont_bd (a2 * e3) (by omega)
      obtain ⟨s9, es9⟩ : ∃ s, s = mont (a2 * e3) := ⟨_, rfl⟩
      rw [← es9] at G3 hs9
      simp only [← es9] at MC9
      obtain ⟨v9, ev9⟩ : ∃ v, a2 * e3 = v := ⟨_, rfl⟩
      rw [ev9] at q9
      simp only [ev9] at MC9
      have uv9 : IntKind.i32.wrap v9 = v9 := by rw [IntKind.wrap_i32]; omega
      have uw9 : wrap32 v9 = v9 := by rw [wrap32_eq]; omega
      have HMC9 := Lib.hid MC9
      clear MC9 es9
      have q10 := sq_bd ba3 be2
      have MC10 := fun w => mont_any (a3 * e2) w (by omega)
      have hs10 := mont_bd (a3 * e2) (by omega)
      obtain ⟨s10, es10⟩ : ∃ s, s = mont (a3 * e2) := ⟨_, rfl⟩
      rw [← es10] at G3 hs10
      simp only [← es10] at MC10
      obtain ⟨v10, ev10⟩ : ∃ v, a3 * e2 = v := ⟨_, rfl⟩
      rw [ev10] at q10
      simp only [ev10] at MC10
      have uv10 : IntKind.i32.wrap v10 = v10 := by rw [IntKind.wrap_i32]; omega
      have uw10 : wrap32 v10 = v10 := by rw [wrap32_eq]; omega
      have HMC10 := Lib.hid MC10
      clear MC10 es10
      obtain ⟨t7, et7⟩ : ∃ r, -s7 = r := ⟨_, rfl⟩
      rw [et7] at G2
      have ut7 : IntKind.i16.wrap t7 = t7 := by rw [wrap_i16']; omega
      obtain ⟨r2, er2⟩ : ∃ r, t7 + s8 = r := ⟨_, rfl⟩
      rw [er2] at G2
      have ur2 : IntKind.i16.wrap r2 = r2 := by rw [wrap_i16']; omega
      obtain ⟨r3, er3⟩ : ∃ r, s9 + s10 = r := ⟨_, rfl⟩
      rw [er3] at G3
      have ur3 : IntKind.i16.wrap r3 = r3 := by rw [wrap_i16']; omega
      have HGG2 := Lib.hid G2
      have HGG3 := Lib.hid G3
      clear G2 G3 HG2 HG3
      have HG2 := HGG2
      have HG3 := HGG3
      have ca2 : w3.cell? ⟨ba, p2, none⟩ = some (.int .i16 a2) := HCa2.out _ on3
      have da2 : ∀ d, ({ heap := w3.heap, tape := w3.tape, drawn := d, os := w3.os, output := w3.output } : World).cell? ⟨ba, p2, none⟩ = some (.int .i16 a2) := fun _ => ca2
      have fa2 : w3.drew.cell? ⟨ba, p2, none⟩ = some (.int .i16 a2) := ca2
      have ce2 : w3.cell? ⟨bb, p2, none⟩ = some (.int .i16 e2) := HCe2.out _ on3
      have de2 : ∀ d, ({ heap := w3.heap, tape := w3.tape, drawn := d, os := w3.os, output := w3.output } : World).cell? ⟨bb, p2, none⟩ = some (.int .i16 e2) := fun _ => ce2
      have fe2 : w3.drew.cell? ⟨bb, p2, none⟩ = some (.int .i16 e2) := ce2
      have ca3 : w3.cell? ⟨ba, p3, none⟩ = some (.int .i16 a3) := HCa3.out _ on3
      have da3 : ∀ d, ({ heap := w3.heap, tape := w3.tape, drawn := d, os := w3.os, output := w3.output } : World).cell? ⟨ba, p3, none⟩ = some (.int .i16 a3) := fun _ => ca3
      have fa3 : w3.drew.cell? ⟨ba, p3, none⟩ = some (.int .i16 a3) := ca3
      have ce3 : w3.cell? ⟨bb, p3, none⟩ = some (.int .i16 e3) := HCe3.out _ on3
      have de3 : ∀ d, ({ heap := w3.heap, tape := w3.tape, drawn := d, os := w3.os, output := w3.output } : World).cell? ⟨bb, p3, none⟩ = some (.int .i16 e3) := fun _ => ce3
      have fe3 : w3.drew.cell? ⟨bb, p3, none⟩ = some (.int .i16 e3) := ce3
      have dr1 : w3.drew.heap = w3.heap := rfl
      have dr2 : w3.drew.os = w3.os := rfl
      have dr3 : w3.drew.output = w3.output := rfl
      have dr4 : w3.drew.tape = w3.tape := rfl
      have dr5 : w3.drew.drawn = w3.drawn + 1 := rfl
      go_wp2_with fail
      go_still_tail 16, mixed
      still_call (Calls.mono (HMC6.out _) fun _ _ ⟨h1, h2⟩ => ⟨h1, h2.symm⟩)
      repeat still_step
      refine wpStill_nil ?_
      go_wp2_with (first | (go_at_call 25; refine (HMC7.out _).mono ?_; rintro e w' ⟨rfl, rfl⟩))
      go_still_tail 18, mixed
      still_call (Calls.mono (HMC8.out _) fun _ _ ⟨h1, h2⟩ => ⟨h1, h2.symm⟩)
      repeat still_step
      refine wpStill_nil ?_
      go_wp2_with fail
      go_still_tail 16, mixed
      still_call (Calls.mono (HMC9.out _) fun _ _ ⟨h1, h2⟩ => ⟨h1, h2.symm⟩)
      repeat still_step
      refine wpStill_nil ?_
      go_wp2_with fail
      go_still_tail 18, mixed
      still_call (Calls.mono (HMC10.out _) fun _ _ ⟨h1, h2⟩ => ⟨h1, h2.symm⟩)
      repeat still_step
      refine wpStill_nil ?_
      have f23 : p2 + 1 = p3 := by have h1 := Hep2.out; have h2 := Hep3.out; omega
      have Hf23 := Lib.hid f23
      clear f23
      go_wp2_with (first | (refine wpList_storeI info16 (.tmp 182) (.tmp 180) bp p2 .i16 r2 k3.drew.drew.drew.drew hp2 rfl rfl rfl rfl ?_; intro w4 o4 k4; have on4 := on3.drew.drew.drew.drew.trans o4; simp only [Act.put]; rw [upto_set (j := p2) (g := G) (f := gp) (v := .int .i16 r2) HG2.out.symm, Hf23.out] at k4) | (refine wpList_storeI info16 (.tmp 188) (.tmp 186) bp p3 .i16 r3 k4 hp3 rfl rfl rfl rfl ?_; intro w5 o5 k5; have on5 := on4.trans o5; simp only [Act.put]; rw [upto_set (j := p3) (g := G) (f := gp) (v := .int .i16 r3) HG3.out.symm] at k5))
      go_roundw
      case rel =>
        have f1 : 64 + (n + 1) = k9 := by have h1 := Hek.out; have h2 := Hek9.out; omega
        have f2 : 4 * (n + 1) = p4 := by have h1 := Hep.out; have h2 := Hep4.out; omega
        have f3 : p3 + 1 = p4 := by have h1 := Hep3.out; have h2 := Hep4.out; omega
        refine ⟨n + 1, by omega, by rw [f1], by rw [f2], on5, ?_⟩
        rw [f2, ← HeG.out, ← f3]
        exact k5
      case measure => simp [intOf]; omega
    · have hn' : n = 64 := by omega
      subst hn'
      go_wp2_with fail
      go_end0
      exact ⟨rfl, ho, by rw [upto_all] at hbk; exact hbk⟩
theorem mulM_any (bp ba bb : Nat) (w : World) (gp : Nat → Value) (fa fb : Nat → Int) (T1 T2 T3 : TypeId) (hp : Blk w bp T1 (cellsF 256 gp)) (ha : Blk w ba T2 (cellsF 256 (ints .i16 fa))) (hb : Blk w bb T3 (cellsF 256 (ints .i16 fb)))
    (hpa : ba ≠ bp) (hpb : bb ≠ bp) (hz : ZetasIn w) (hne : 0 ≠ bp) (hfa : ∀ i, i < 256 → 0 ≤ fa i ∧ fa i ≤ 3328) (hfb : ∀ i, i < 256 → 0 ≤ fb i ∧ fb i ≤ 3328) :
    Calls Tryd.prog 16 #[.pointer (some ⟨bp, 0, none⟩), .pointer (some ⟨ba, 0, none⟩), .pointer (some ⟨bb, 0, none⟩)] w
      fun e w' => e = .returned (.tuple #[]) ∧ Only bp w w' ∧ Blk w' bp T1 (cellsF 256 (ints .i16 (MK fa fb))) := by
  have H := Lib.hid (mulG_any bp ba bb w gp fa fb T1 T2 T3 hp ha hb hpa hpb hz hne hfa hfb)
  clear hp ha hb hpa hpb hz hne hfa hfb
  go_enter Tryd.func16, Tryd.ntmps16
  go_wp2_with (go_at_call 21; refine H.out.mono ?_; rintro e w' ⟨rfl, hq⟩)
  go_end0
  exact ⟨rfl, hq⟩

/-- the wrapper of a method of two polynomials -/
theorem kMul_any (f g : Nat → Int) (w : World) (hz : ZetasIn w) (hfa : ∀ i, i < 256 → 0 ≤ f i ∧ f i ≤ 3328) (hfb : ∀ i, i < 256 → 0 ≤ g i ∧ g i ≤ 3328) : Calls Tryd.prog 7 #[.agg (cellsF 256 (ints .i16 f)), .agg (cellsF 256 (ints .i16 g))] w fun e w' => e = .returned (.agg (cellsF 256 (ints .i16 (MK f g)))) ∧ Ext w w' := by
  go_enter Tryd.func7, Tryd.ntmps7
  refine wp_region_then ?_
  refine wpList_boxA 23 (.tmp 0) _ rfl rfl rfl ?_
  simp only [Act.put, List.setIfInBounds_toArray, List.set]
  intro w1 ba ha x1 ka
  have X1 := Ext.trans (Ext.refl w) x1
  have z1 := x1.size
  have la := ka.lt
  refine wpList_boxA 23 (.tmp 1) _ rfl rfl rfl ?_
  simp only [Act.put, List.setIfInBounds_toArray, List.set]
  intro w2 bc hc x2 kc
  have X2 := Ext.trans X1 x2
  have z2 := x2.size
  replace ka := ka.ext x2
  have lc := kc.lt
  refine wpList_allocA 23 _ _ zeroK rfl rfl ?_
  simp only [Act.put, List.setIfInBounds_toArray, List.set]
  intro w3 br hr x3 kr
  have X3 := Ext.trans X2 x3
  have z3 := x3.size
  replace ka := ka.ext x3
  replace kc := kc.ext x3
  have lr := kr.lt
  refine wp_next (wp_region_then ?_)
  refine wpList_allocA 34 _ _ zeroP rfl rfl ?_
  simp only [Act.put, List.setIfInBounds_toArray, List.set]
  intro w4 bo ho x4 ko
  have X4 := Ext.trans X3 x4
  have z4 := x4.size
  replace ka := ka.ext x4
  replace kc := kc.ext x4
  replace kr := kr.ext x4
  have lo := ko.lt
  refine wp_next (wp_seq ?_)
  refine wp_region_two 2 _ _ _ _ 34 34 256 256 6 7 (.tmp 8) (.tmp 9) _ _ mixed (by kernel_rfl) rfl arrP arrP zeroP zeroP (size_cellsF _ _) (size_cellsF _ _) ⟨rfl, rfl, rfl⟩ ⟨rfl, rfl, rfl⟩ ⟨rfl, rfl, rfl⟩ ⟨rfl, rfl, rfl⟩ (by decide) ?_
  simp only [List.take_succ_cons, List.take_zero]
  refine wpDet_loadA arrK (.tmp 2) ba _ ka (size_cellsF _ _) rfl rfl rfl ?_
  simp only [Act.put, List.setIfInBounds_toArray, List.set]
  refine wpDet_loadA arrK (.tmp 3) bc _ kc (size_cellsF _ _) rfl rfl rfl ?_
  simp only [Act.put, List.setIfInBounds_toArray, List.set]
  refine ⟨_, _, size_cellsF _ _, size_cellsF _ _, one_cellsF _ _ _, one_cellsF _ _ _, fun _ _ => ⟨rfl, rfl, rfl, rfl⟩, ?_⟩
  intro bx bv w5 hx hv hne5 x5 kx kv
  simp only [List.setIfInBounds_toArray, List.set]
  have X5 := Ext.trans X4 x5
  have z5 := x5.size
  replace ka := ka.ext x5
  replace kc := kc.ext x5
  replace kr := kr.ext x5
  replace ko := ko.ext x5
  have lx := kx.lt
  have lv := kv.lt
  refine wp_then (wp_region_then ?_)
  refine wpList_call0 _ _ Tryd.func16 (by kernel_rfl) (by kernel_rfl) rfl rfl (mulM_any bo bx bv _ _ f g _ _ _ ko kx kv (by omega) (by omega) (hz.ext X5) (by have := hz.lt; omega) hfa hfb) ?_
  simp only [Act.put, List.setIfInBounds_toArray, List.set]
  clear ko
  rintro w6 ⟨o6, ko⟩
  have X6 := o6.ext X5 (by omega)
  have z6 := o6.size
  replace ka := o6.blk (by omega) ka
  replace kc := o6.blk (by omega) kc
  replace kr := o6.blk (by omega) kr
  replace kx := o6.blk (by omega) kx
  replace kv := o6.blk (by omega) kv
  refine wp_next (wp_region_then ?_)
  refine wpList_loadA arrP (.tmp 5) bo _ ko (size_cellsF _ _) rfl rfl rfl ?_
  simp only [Act.put, List.setIfInBounds_toArray, List.set]
  refine wpList_storeA arrK (.tmp 4) (.tmp 11) br _ _ kr (size_cellsF _ _) (size_cellsF _ _) (one_cellsF _ _ _) rfl rfl rfl rfl ?_
  simp only [Act.put]
  clear kr
  intro w7 o7 kr
  have X7 := o7.ext X6 (by omega)
  have z7 := o7.size
  replace ka := o7.blk (by omega) ka
  replace kc := o7.blk (by omega) kc
  replace ko := o7.blk (by omega) ko
  replace kx := o7.blk (by omega) kx
  replace kv := o7.blk (by omega) kv
  refine wp_next (wp_ret ?_)
  exact bodyPost_cellA arrK rfl br _ kr (size_cellsF _ _) rfl rfl ⟨rfl, X7⟩

set_option maxRecDepth 100000 in
set_option maxHeartbeats 2000000 in
theorem sProd_any (f g : Nat → Int) (w : World) (hf : ∀ i, i < 256 → 0 ≤ f i ∧ f i < 3329) (hg : ∀ i, i < 256 → 0 ≤ g i ∧ g i < 3329) :
    Calls Tryd.prog 10 #[.agg (cellsF 256 (ints .i64 f)), .agg (cellsF 256 (ints .i64 g))] w fun e w' => e = .returned (.agg (cellsF 256 (ints .i64 (pI f g 256)))) ∧ Ext w w' := by
  go_enter Tryd.func10, Tryd.ntmps10
  refine wp_region_then ?_
  refine wpList_boxA 29 (.tmp 0) _ rfl rfl rfl ?_
  simp only [Act.put, List.setIfInBounds_toArray, List.set]
  intro w1 ba ha x1 ka
  have X1 := Ext.trans (Ext.refl w) x1
  have z1 := x1.size
  have la := ka.lt
  refine wpList_boxA 29 (.tmp 1) _ rfl rfl rfl ?_
  simp only [Act.put, List.setIfInBounds_toArray, List.set]
  intro w2 bc hc x2 kc
  have X2 := Ext.trans X1 x2
  have z2 := x2.size
  replace ka := ka.ext x2
  have lc := kc.lt
  refine wpList_allocA 29 _ _ zeroS rfl rfl ?_
  simp only [Act.put, List.setIfInBounds_toArray, List.set]
  intro w3 br hr x3 kr
  have X3 := Ext.trans X2 x3
  have z3 := x3.size
  replace ka := ka.ext x3
  replace kc := kc.ext x3
  have lr := kr.lt
  refine wp_next (wp_region_then ?_)
  refine wpList_build0 intS _ zeroS rfl rfl ?_
  simp only [Act.put, List.setIfInBounds_toArray, List.set]
  refine wpList_allocA 29 _ _ zeroS rfl rfl ?_
  simp only [Act.put, List.setIfInBounds_toArray, List.set]
  intro w4 bo ho x4 ko
  have X4 := Ext.trans X3 x4
  have z4 := x4.size
  replace ka := ka.ext x4
  replace kc := kc.ext x4
  replace kr := kr.ext x4
  have lo := ko.lt
  refine wpList_storeA arrS (.tmp 5) (.tmp 12) bo _ (cellsF 256 (ints .i64 fun _ => 0)) ko (size_cellsF _ _) (size_cellsF _ _) (one_cellsF _ _ _) rfl rfl rfl rfl ?_
  simp only [Act.put]
  clear ko
  intro w5 o5 ko
  have X5 := o5.ext X4 (by omega)
  have z5 := o5.size
  replace ka := o5.blk (by omega) ka
  replace kc := o5.blk (by omega) kc
  replace kr := o5.blk (by omega) kr
  refine wp_next (wp_seq (wp_region_then ?_))
  refine wpList_loadA arrS (.tmp 2) ba _ ka (size_cellsF _ _) rfl rfl rfl ?_
  simp only [Act.put, List.setIfInBounds_toArray, List.set]
  refine wpList_val (v := .int .i64 0) rfl rfl ?_
  simp only [Act.put, List.setIfInBounds_toArray, List.set]
  refine wp_next ?_
  have hix : ∀ (q : Nat → Int) (j : Nat), j < 256 → ∀ wz, (Instr.index 29 (.agg (cellsF 256 (ints .i64 q))) (.int .i64 (j : Int))).run Tryd.prog wz = .ok (.int .i64 (q j)) wz := fun q j hj wz => run_index intS _ j hj
  have hlt : br < bo := by omega
  have hco : bc < bo := by omega
  have hw0 : w.heap.size ≤ bo := by omega
  have hw1 : w.heap.size ≤ br := by omega
  have HX := Lib.hid X5
  have HIX := Lib.hid hix
  have HFB := Lib.hid hf
  have HGB := Lib.hid hg
  have KC := Lib.hid kc
  clear X1 X2 X3 X4 X5 hix hf hg kc x1 x2 x3 x4
  go_wp2_with fail
  go_loopw [14] (fun x wr => ∃ i : Nat, i ≤ 256 ∧ x = .int .i64 i ∧ Only bo w5 wr ∧ Blk wr bo 29 (cellsF 256 (ints .i64 (pI f g i)))) (fun x _ => 256 - (intOf x).toNat)
  case atStart => exact ⟨0, by omega, rfl, Only.refl _ _, ko⟩
  case round =>
    obtain ⟨i, hi, rfl, hon, hbk⟩ := hrel
    by_cases hil : i < 256
    · have h1 := HIX.out f i hil
      obtain ⟨x1, x2⟩ := HFB.out i hil
      have kc2 := hon.blk (by omega) KC.out
      have mk1 : True := trivial
      clear ko
      go_wp2_with (clear mk1; refine wpList_loadA arrS (.tmp 3) bc _ kc2 (size_cellsF _ _) rfl rfl rfl ?_; simp only [Act.put, List.setIfInBounds_toArray, List.set])
      have hjz : decide ((i : Int) < 256) = true := decide_eq_true (by omega)
      try rw [hjz]
      clear hjz
      go_loopw [19] (fun x wr => ∃ j : Nat, j ≤ 256 ∧ x = .int .i64 j ∧ Only bo w5 wr ∧ Blk wr bo 29 (cellsF 256 (ints .i64 (pJ f g i (pI f g i) j)))) (fun x _ => 256 - (intOf x).toNat)
      case atStart => exact ⟨0, by omega, rfl, hon, hbk⟩
      case round =>
        clear hon hbk kc2
        obtain ⟨j, hj, rfl, hon, hbk⟩ := hrel
        by_cases hjl : j < 256
        · have h2 := HIX.out g j hjl
          obtain ⟨y1, y2⟩ := HGB.out j hjl
          have hob := pJ_bd f g i (pI_bd f g i) j (pAt i j)
          have hst : ∀ t, pJ f g i (pI f g i) (j + 1) t = if t = pAt i j then (pJ f g i (pI f g i) j (pAt i j) + pV f g i j) % 3329 else pJ f g i (pI f g i) j t := fun t => by
            show upd _ _ _ t = _
            unfold upd
            by_cases h : t = pAt i j
            · rw [if_pos h, if_pos h, h]
            · rw [if_neg h, if_neg h]
          have hpv : pV f g i j = if i + j > 255 then -(f i * g j) else f i * g j := rfl
          have hpa : pAt i j = if i + j > 255 then i + j - 256 else i + j := rfl
          obtain ⟨q, eq⟩ : ∃ q, pAt i j = q := ⟨_, rfl⟩
          rw [eq] at hob hst hpa
          have hq : q < 256 := by split at hpa <;> omega
          have ca : wr.cell? ⟨bo, q, none⟩ = some (.int .i64 (pJ f g i (pI f g i) j q)) := hbk.cell hq
          have fp := hbk.frozen q
          generalize f i = x at *
          generalize g j = y at *
          generalize hco9 : pJ f g i (pI f g i) j q = c at *
          have HC9 := Lib.hid hco9
          clear hco9 eq
          obtain ⟨c1, c2⟩ := hob
          have p1 : 0 ≤ x * y := Int.mul_nonneg x1 y1
          have p2 : x * y ≤ 3329 * 3329 := Int.mul_le_mul (by omega) (by omega) y1 (by omega)
          obtain ⟨v, ev⟩ : ∃ v, x * y = v := ⟨_, rfl⟩
          rw [ev] at p1 p2 hpv
          have uv : IntKind.i64.wrap v = v := by rw [IntKind.wrap_i64]; omega
          by_cases hw : 255 < i + j
          · rw [if_pos hw] at hpv hpa
            rw [hpv] at hst
            obtain ⟨d, ed⟩ : ∃ d, c + -v = d := ⟨_, rfl⟩
            have MC := fun w => mod_any d w (by omega)
            obtain ⟨s, es⟩ : ∃ s, d % 3329 = s := ⟨_, rfl⟩
            rw [ed, es] at hst
            simp only [es] at MC
            have ud : IntKind.i64.wrap d = d := by rw [IntKind.wrap_i64]; omega
            have uw : IntKind.i64.wrap (-v) = -v := by rw [IntKind.wrap_i64]; omega
            have zq : (i : Int) + (j : Int) - 256 = (q : Int) := by omega
            have tq : (q : Int) < 256 := by omega
            have HST := Lib.hid hst
            have HMC := Lib.hid MC
            clear hst MC es hpv hpa
            go_wp2_with (go_at_call 17; refine (HMC.out _).mono ?_; rintro e w' ⟨rfl, rfl⟩)
            go_roundw
            case rel =>
              refine ⟨j + 1, by omega, by go_num, hon.setCell _, (hbk.setCell q (.int .i64 s)).congr fun x _ => ?_⟩
              show _ = Value.int .i64 (pJ f g i (pI f g i) (j + 1) x)
              rw [HST.out x]
              split <;> rfl
            case measure => simp [intOf]; omega
          · rw [if_neg (by omega)] at hpv hpa
            rw [hpv] at hst
            obtain ⟨d, ed⟩ : ∃ d, c + v = d := ⟨_, rfl⟩
            have MC := fun w => mod_any d w (by omega)
            obtain ⟨s, es⟩ : ∃ s, d % 3329 = s := ⟨_, rfl⟩
            rw [ed, es] at hst
            simp only [es] at MC
            have ud : IntKind.i64.wrap d = d := by rw [IntKind.wrap_i64]; omega
            have zq : (i : Int) + (j : Int) = (q : Int) := by omega
            have tq2 : ¬ 255 < (q : Int) := by omega
            have tq : (q : Int) < 256 := by omega
            have HST := Lib.hid hst
            have HMC := Lib.hid MC
            clear hst MC es hpv hpa
            go_wp2_with (go_at_call 17; refine (HMC.out _).mono ?_; rintro e w' ⟨rfl, rfl⟩)
            go_roundw
            case rel =>
              refine ⟨j + 1, by omega, by go_num, hon.setCell _, (hbk.setCell q (.int .i64 s)).congr fun x _ => ?_⟩
              show _ = Value.int .i64 (pJ f g i (pI f g i) (j + 1) x)
              rw [HST.out x]
              split <;> rfl
            case measure => simp [intOf]; omega
        · have hj' : j = 256 := by omega
          subst hj'
          go_wp2_with fail
          go_roundw
          case rel => exact ⟨i + 1, by omega, by go_num, hon, hbk⟩
          case measure => simp [intOf]; omega
    · have hi' : i = 256 := by omega
      subst hi'
      have kr2 := hon.blk (by omega) kr
      have HO := Lib.hid hon
      clear hon ko
      go_wp2_with (first | (refine wpList_loadA arrS (.tmp 5) bo _ hbk (size_cellsF _ _) rfl rfl rfl ?_; simp only [Act.put, List.setIfInBounds_toArray, List.set]) | (refine wpList_storeA arrS (.tmp 4) (.tmp 45) br _ _ kr2 (size_cellsF _ _) (size_cellsF _ _) (one_cellsF _ _ _) rfl rfl rfl rfl ?_; simp only [Act.put]; intro wy oy ky))
      exact bodyPost_cellA arrS rfl br _ ky (size_cellsF _ _) rfl rfl ⟨rfl, oy.ext (HO.out.ext HX.out hw0) hw1⟩

end Go.Proofs.YtgojphoejmbliaaDoor
