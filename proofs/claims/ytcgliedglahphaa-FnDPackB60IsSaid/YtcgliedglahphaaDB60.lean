/- PackB60 (Dilithium). -/
import Derived.Test.YtcgliedglahphaaDTab
import Derived.Test.YtcgliedglahphaaStore
import Derived.Test.YtcgliedglahphaaBits
import Derived.Test.YtcgliedglahphaaOnly2
import Derived.Lib.Hide
namespace Go.Proofs.Ytcgliedglahphaa
open Go Go.Proofs Go.RowKit Go.Kd
set_option linter.unusedSimpArgs false
set_option linter.unusedVariables false

theorem szB : (Try.prog.info? 5).map (·.size) = some 1 := by kernel_rfl
theorem infoB : (Try.prog.info? 5).map (fun i => (i.zero, i.size, i.bytes)) = some (some (.int .u8 0), 1, 1) := by kernel_rfl
theorem intP : IntArr Try.prog 29 22 256 .u32 := ⟨Try.underlying29, Try.underlying22, by kernel_rfl, Option.map_eq_some_iff.1 info32, by kernel_rfl⟩
theorem pow8 : ∀ r : Nat, r < 8 → (1 : Int) ≤ 2 ^ r ∧ (2 : Int) ^ r ≤ 128 := by decide
/-- how many numbers before m are not 0 -/
def rk (f : Nat → Int) : Nat → Nat
  | 0 => 0
  | m + 1 => if f m = 0 then rk f m else rk f m + 1
/-- the signs of those: a bit each -/
def sg (f : Nat → Int) : Nat → Int
  | 0 => 0
  | m + 1 => if f m = 8380416 then sg f m + 2 ^ rk f m else sg f m
def nz (f : Nat → Int) (i : Nat) : Int := if f i = 0 then 0 else 1
theorem pow_pos' (n : Nat) : (1 : Int) ≤ 2 ^ n := by
  have h : (0 : Int) < 2 ^ n := Int.pow_pos (by decide)
  omega
theorem sg_bd (f : Nat → Int) : ∀ m, 0 ≤ sg f m ∧ sg f m < 2 ^ rk f m
  | 0 => by simp [sg, rk]
  | m + 1 => by
    have h := sg_bd f m
    have hp := pow_pos' (rk f m)
    have e : (2 : Int) ^ (rk f m + 1) = 2 ^ rk f m * 2 := Int.pow_succ _ _
    have a1 : sg f (m + 1) = if f m = 8380416 then sg f m + 2 ^ rk f m else sg f m := rfl
    have a2 : rk f (m + 1) = if f m = 0 then rk f m else rk f m + 1 := rfl
    rw [a1, a2]
    by_cases h1 : f m = 0
    · rw [if_pos h1, if_neg (by omega)]; exact h
    · rw [if_neg h1, e]
      split <;> omega
theorem rk_mono (f : Nat → Int) (m : Nat) : ∀ k, rk f m ≤ rk f (m + k)
  | 0 => Nat.le_refl _
  | k + 1 => by
    have h := rk_mono f m k
    have a2 : rk f (m + (k + 1)) = if f (m + k) = 0 then rk f (m + k) else rk f (m + k) + 1 := rfl
    rw [a2]
    split <;> omega
theorem sg_hi (f : Nat → Int) (m : Nat) : ∀ k, ∃ K, sg f (m + k) = sg f m + 2 ^ rk f m * K
  | 0 => ⟨0, by simp⟩
  | k + 1 => by
    obtain ⟨K, hK⟩ := sg_hi f m k
    have hm := rk_mono f m k
    have e : (2 : Int) ^ rk f (m + k) = 2 ^ rk f m * 2 ^ (rk f (m + k) - rk f m) := by rw [← Int.pow_add]; congr 1; omega
    show ∃ K, sg f (m + k + 1) = _
    by_cases h : f (m + k) = 8380416
    · refine ⟨K + 2 ^ (rk f (m + k) - rk f m), ?_⟩
      show (if _ then _ else _) = _
      rw [if_pos h, hK, e, Int.mul_add, Int.add_assoc]
    · refine ⟨K, ?_⟩
      show (if _ then _ else _) = _
      rw [if_neg h, hK]
/-- the sign of number m, out of all signs -/
theorem sg_bit (f : Nat → Int) (m : Nat) (hm : m < 256) (h0 : f m ≠ 0) : sg f 256 / 2 ^ rk f m % 2 = if f m = 8380416 then 1 else 0 := by
  obtain ⟨K, hK⟩ := sg_hi f (m + 1) (255 - m)
  rw [show m + 1 + (255 - m) = 256 by omega] at hK
  have hb := sg_bd f m
  have hp := pow_pos' (rk f m)
  have e1 : rk f (m + 1) = rk f m + 1 := by show (if _ then _ else _) = _; rw [if_neg h0]
  have e2 : sg f (m + 1) = if f m = 8380416 then sg f m + 2 ^ rk f m else sg f m := rfl
  rw [e1, Int.pow_succ, Int.mul_assoc, e2] at hK
  generalize (2 : Int) ^ rk f m = P at *
  by_cases h : f m = 8380416
  · rw [if_pos h] at hK ⊢
    rw [hK, show sg f m + P + P * (2 * K) = sg f m + P * (1 + 2 * K) by rw [Int.mul_add, Int.mul_one, Int.add_assoc], Int.add_mul_ediv_left _ _ (by omega), Int.ediv_eq_zero_of_lt hb.1 hb.2]
    omega
  · rw [if_neg h] at hK ⊢
    rw [hK, Int.add_mul_ediv_left _ _ (by omega), Int.ediv_eq_zero_of_lt hb.1 hb.2]
    omega
/-- the bytes while they are made -/
def stB (f : Nat → Int) (m t : Nat) : Int := if t < 32 then encAt (bitL (nz f) 1) m t else 0
/-- the 40 bytes -/
def b60 (f : Nat → Int) (t : Nat) : Int := if t < 32 then enc (nz f) 1 t else sg f 256 / 2 ^ (8 * (t - 32)) % 256
def finB (f : Nat → Int) (q t : Nat) : Int := if t < 32 + q then b60 f t else 0
theorem stB_zero (f : Nat → Int) (t : Nat) : stB f 0 t = 0 := by unfold stB; split; exact encAt_zero _ _; rfl
set_option maxRecDepth 100000 in
set_option maxHeartbeats 4000000 in
theorem packB60_any (bs bd : Nat) (w : World) (Td : TypeId) (f : Nat → Int) (hs : RowK w bs 256 .u32 f) (hd : Blk w bd Td (cellsF 40 (ints .u8 fun _ => 0))) (hne : bs ≠ bd) (hf : ∀ i, i < 256 → f i = 0 ∨ f i = 1 ∨ f i = 8380416) (h60 : rk f 256 ≤ 60) :
    Calls Try.prog 6 #[.pointer (some ⟨bs, 0, none⟩), .slice (some ⟨bd, 0, none⟩) 40 40] w fun e w' => e = .returned (.tuple #[]) ∧ Only bd w w' ∧ Blk w' bd Td (cellsF 40 (ints .u8 (b60 f))) := by
  have k0 : Blk w bd Td (cellsF 40 (ints .u8 (stB f 0))) := hd.congr fun i _ => by show Value.int _ _ = Value.int _ _; rw [stB_zero]
  have h60' : ∀ m, m < 257 → rk f m ≤ 60 := fun m hm => by
    have h := rk_mono f m (256 - m)
    rw [show m + (256 - m) = 256 by omega] at h
    omega
  have HS := Lib.hid hs
  have HF := Lib.hid hf
  have H60 := Lib.hid h60'
  clear hd hs hf h60 h60'
  go_enter Try.func6, Try.ntmps6
  go_wp2_with fail
  go_loopw [6, 4, 5] (fun x y z wr => ∃ r : Nat, r ≤ 32 ∧ x = .int .i64 (r : Nat) ∧ y = .int .u64 (sg f (8 * r)) ∧ z = .int .u64 (2 ^ rk f (8 * r)) ∧ Only bd w wr ∧ Blk wr bd Td (cellsF 40 (ints .u8 (stB f (8 * r))))) (fun x _ _ _ => 32 - (intOf x).toNat)
  case atStart => exact ⟨0, by omega, rfl, rfl, rfl, Only.refl _ _, k0⟩
  case round =>
    obtain ⟨r, hr, rfl, rfl, rfl, hon, hbk⟩ := hrel
    by_cases hl : r < 32
    · clear k0
      have ca0 : wr.cell? ⟨bd, r, none⟩ = some (.int .u8 (stB f (8 * r) r)) := hbk.cell (by omega)
      have fp0 := hbk.frozen r
      have on1 : Only bd w (wr.setCell ⟨bd, r, none⟩ (.int .u8 0)) := hon.setCell _
      have bk1 : Blk (wr.setCell ⟨bd, r, none⟩ (.int .u8 0)) bd Td (cellsF 40 (ints .u8 (stB f (8 * r)))) := (Blk.setCell hbk r (.int .u8 0)).congr fun x _ => by
        show (if x = r then _ else Value.int _ _) = Value.int _ _
        split
        · next h =>
          have e : stB f (8 * r) r = 0 := by unfold stB encAt; rw [if_pos hl, show min 8 (8 * r - 8 * r) = 0 by omega]; rfl
          rw [h, e]
        · rfl
      have trl : (r : Int) < 40 := by omega
      have b0 := sg_bd f (8 * r)
      generalize hsg : sg f (8 * r) = s0 at *
      generalize hpw : (2 : Int) ^ rk f (8 * r) = P0 at *
      have HSG := Lib.hid hsg
      have HPW := Lib.hid hpw
      clear hsg hpw
      go_wp2_with fail
      have hjz : decide ((r : Int) < 32) = true := decide_eq_true (by omega)
      try rw [hjz]
      clear hjz ca0 fp0
      go_loopw [7, 4, 5] (fun x y z wr => ∃ j : Nat, j ≤ 8 ∧ x = .int .i64 (j : Nat) ∧ y = .int .u64 (sg f (8 * r + j)) ∧ z = .int .u64 (2 ^ rk f (8 * r + j)) ∧ Only bd w wr ∧ Blk wr bd Td (cellsF 40 (ints .u8 (stB f (8 * r + j))))) (fun x _ _ _ => 8 - (intOf x).toNat)
      case atStart => exact ⟨0, by omega, rfl, by rw [← HSG.out]; rfl, by rw [← HPW.out]; rfl, on1, bk1⟩
      case round =>
        clear hon hbk on1 bk1 b0
        obtain ⟨j, hj, rfl, rfl, rfl, hon, hbk⟩ := hrel
        by_cases hjl : j < 8
        · obtain ⟨p, ep⟩ : ∃ p : Nat, p = 8 * r + j := ⟨_, rfl⟩
          rw [← ep] at hbk
          simp only [← ep]
          have hnp : p < 256 := by omega
          have cb : wr.cell? ⟨bs, p, none⟩ = some (.int .u32 (f p)) := (HS.out.only hne hon).2 p hnp
          have hfp := HF.out p hnp
          obtain ⟨c1, c2⟩ := octet_bd (bitL_bd (nz f) 1) r j
          have hat : stB f p r = octet (bitL (nz f) 1) r j := by
            have h := encAt_here (bitL (nz f) 1) p
            rw [show p / 8 = r by omega, show p % 8 = j by omega] at h
            unfold stB
            rw [if_pos hl, h]
          have ca0 : wr.cell? ⟨bd, r, none⟩ = some (.int .u8 (octet (bitL (nz f) 1) r j)) := by rw [← hat]; exact hbk.cell (by omega)
          have hbit : bitL (nz f) 1 p = nz f p := by
            unfold bitL
            rw [Nat.div_one, show p % 1 = 0 by omega]
            unfold nz
            split <;> rfl
          have hst : ∀ x, stB f (p + 1) x = if x = r then octet (bitL (nz f) 1) r j + nz f p * 2 ^ j else stB f p x := by
            intro x
            have h := encAt_step (bitL (nz f) 1) p x
            rw [show p / 8 = r by omega, show p % 8 = j by omega, hbit] at h
            have h2 := encAt_here (bitL (nz f) 1) p
            rw [show p / 8 = r by omega, show p % 8 = j by omega] at h2
            unfold stB
            by_cases hx : x = r
            · rw [if_pos hx, if_pos (by omega), h, if_pos hx, h2]
            · rw [if_neg hx]
              by_cases hx2 : x < 32
              · rw [if_pos hx2, if_pos hx2, h, if_neg hx]
              · rw [if_neg hx2, if_neg hx2]
          have hrk : rk f (p + 1) = if f p = 0 then rk f p else rk f p + 1 := rfl
          have hsg : sg f (p + 1) = if f p = 8380416 then sg f p + 2 ^ rk f p else sg f p := rfl
          have hnz : nz f p = if f p = 0 then 0 else 1 := rfl
          obtain ⟨s1, s2⟩ := sg_bd f p
          have hr60 := H60.out (p + 1) (by omega)
          have hr59 := H60.out p (by omega)
          have hpp := pow_pos' (rk f p)
          have hp2 : (2 : Int) ^ (rk f p + 1) = 2 ^ rk f p * 2 := Int.pow_succ _ _
          have hor := fun h => or_u64 (sg f p) (2 ^ rk f p) (rk f p) 1 s1 s2 (Int.mul_one _).symm (by omega) h
          have hple : (2 : Int) ^ rk f p ≤ 1152921504606846976 := by
            have h : 2 ^ rk f p ≤ 2 ^ 60 := Nat.pow_le_pow_right (by omega) hr59
            have h2 : ((2 ^ rk f p : Nat) : Int) ≤ ((2 ^ 60 : Nat) : Int) := Int.ofNat_le.2 h
            have e1 : ((2 ^ rk f p : Nat) : Int) = (2 : Int) ^ rk f p := by push_cast; rfl
            have e2 : ((2 ^ 60 : Nat) : Int) = 1152921504606846976 := by decide
            rw [e1, e2] at h2
            exact h2
          have hsp := hor (by omega)
          have hpj := pow8 j hjl
          have hor8 : bits .or .u8 (octet (bitL (nz f) 1) r j) (2 ^ j) = octet (bitL (nz f) 1) r j + 2 ^ j := or_u8 _ _ j 1 c1 c2 (Int.mul_one _).symm (by omega) (by omega)
          generalize octet (bitL (nz f) 1) r j = c at *
          obtain ⟨e, ee⟩ : ∃ e : Int, (2 : Int) ^ j = e := ⟨_, rfl⟩
          have eJ : (1 : Int) * 2 ^ j = e := by rw [Int.one_mul]; exact ee
          obtain ⟨c9, ec9⟩ : ∃ c9 : Int, c + e = c9 := ⟨_, rfl⟩
          rw [ee] at hor8 hpj c2
          rw [ec9] at hor8
          simp only [ee] at hst
          have we : IntKind.u8.wrap e = e := by rw [IntKind.wrap_u8]; omega
          have we2 : e % 256 = e := by omega
          generalize hsgp : sg f p = s0 at *
          generalize hPp : (2 : Int) ^ rk f p = P at *
          obtain ⟨s9, es9⟩ : ∃ s9 : Int, s0 + P = s9 := ⟨_, rfl⟩
          rw [es9] at hsp hsg
          obtain ⟨P2, eP2⟩ : ∃ P2 : Int, P * 2 = P2 := ⟨_, rfl⟩
          rw [eP2] at hp2
          have wP2 : IntKind.u64.wrap P2 = P2 := by rw [wrap_u64']; omega
          have wP22 : P2 % 18446744073709551616 = P2 := by omega
          have hju : (j : Int) % 18446744073709551616 = (j : Int) := by omega
          have z8 : 8 * (r : Int) + (j : Int) = (p : Int) := by omega
          have zb : (p : Int) < 256 := by omega
          have trl : (r : Int) < 40 := by omega
          have fp := hbk.frozen r
          have HST := Lib.hid hst
          have HAT := Lib.hid hat
          have HRK := Lib.hid hrk
          have HSG2 := Lib.hid hsg
          have HNZ := Lib.hid hnz
          have HP2 := Lib.hid hp2
          have HPP := Lib.hid hPp
          have HE := Lib.hid ep
          have HEC := Lib.hid ec9
          clear hst hat hrk hsg hnz hp2 hPp ep hor hsgp hbit ec9 s1 s2 hpp hple c1 c2
          rcases hfp with h | h | h
          · rw [h] at cb
            have HH := Lib.hid h
            clear h hor8 hsp eJ ee we we2 es9 eP2 wP2 wP22 hpj
            go_wp2_with fail
            go_roundw
            case rel =>
              have h := HH.out
              have h8 : 8 * r + (j + 1) = p + 1 := by have := HE.out; omega
              refine ⟨j + 1, by omega, by go_num, ?_, ?_, hon, hbk.congr fun x _ => ?_⟩
              · rw [h8, HSG2.out, if_neg (by omega)]
              · rw [h8, HRK.out, if_pos h, HPP.out]
              · rw [h8]
                show _ = Value.int .u8 (stB f (p + 1) x)
                rw [HST.out x, HNZ.out]
                by_cases hx : x = r
                · rw [if_pos hx, if_pos h, hx, Int.zero_mul, Int.add_zero, ← HAT.out]; rfl
                · rw [if_neg hx]; rfl
            case measure => simp [intOf]; omega
          · rw [h] at cb
            have HH := Lib.hid h
            clear h
            go_wp2_with fail
            go_roundw
            case rel =>
              have h := HH.out
              have h8 : 8 * r + (j + 1) = p + 1 := by have := HE.out; omega
              refine ⟨j + 1, by omega, by go_num, ?_, ?_, hon.setCell _, (hbk.setCell r (.int .u8 c9)).congr fun x _ => ?_⟩
              · rw [h8, HSG2.out, if_neg (by omega)]
              · rw [h8, HRK.out, if_neg (by omega), HP2.out]
              · rw [h8]
                show _ = Value.int .u8 (stB f (p + 1) x)
                rw [HST.out x, HNZ.out]
                have h0 : ¬ f p = 0 := by omega
                by_cases hx : x = r
                · rw [if_pos hx, if_pos hx, if_neg h0, Int.one_mul, HEC.out]
                · rw [if_neg hx, if_neg hx]; rfl
            case measure => simp [intOf]; omega
          · rw [h] at cb
            have HH := Lib.hid h
            clear h
            go_wp2_with fail
            go_roundw
            case rel =>
              have h := HH.out
              have h8 : 8 * r + (j + 1) = p + 1 := by have := HE.out; omega
              refine ⟨j + 1, by omega, by go_num, ?_, ?_, hon.setCell _, (hbk.setCell r (.int .u8 c9)).congr fun x _ => ?_⟩
              · rw [h8, HSG2.out, if_pos h]
              · rw [h8, HRK.out, if_neg (by omega), HP2.out]
              · rw [h8]
                show _ = Value.int .u8 (stB f (p + 1) x)
                rw [HST.out x, HNZ.out]
                have h0 : ¬ f p = 0 := by omega
                by_cases hx : x = r
                · rw [if_pos hx, if_pos hx, if_neg h0, Int.one_mul, HEC.out]
                · rw [if_neg hx, if_neg hx]; rfl
            case measure => simp [intOf]; omega
        · have hj8 : j = 8 := by omega
          subst hj8
          go_wp2_with fail
          go_roundw
          case rel => exact ⟨r + 1, by omega, by go_num, rfl, rfl, hon, hbk⟩
          case measure => simp [intOf]; omega
    · have hr' : r = 32 := by omega
      subst hr'
      have hk1 : Blk wr bd Td (cellsF 40 (ints .u8 (finB f 0))) := hbk.congr fun t ht => by
        show Value.int _ _ = Value.int _ _
        unfold stB finB b60
        by_cases h : t < 32
        · rw [if_pos h, if_pos (by omega), if_pos h, encAt_all (by omega)]; rfl
        · rw [if_neg h, if_neg (by omega)]
      have hb0 := sg_bd f 256
      have hr59 := H60.out 256 (by omega)
      have hple : (2 : Int) ^ rk f 256 ≤ 1152921504606846976 := by
        have h : 2 ^ rk f 256 ≤ 2 ^ 60 := Nat.pow_le_pow_right (by omega) hr59
        have h2 : ((2 ^ rk f 256 : Nat) : Int) ≤ ((2 ^ 60 : Nat) : Int) := Int.ofNat_le.2 h
        have e1 : ((2 ^ rk f 256 : Nat) : Int) = (2 : Int) ^ rk f 256 := by push_cast; rfl
        have e2 : ((2 ^ 60 : Nat) : Int) = 1152921504606846976 := by decide
        rw [e1, e2] at h2
        exact h2
      obtain ⟨S, eS⟩ : ∃ S, sg f 256 = S := ⟨_, rfl⟩
      have hfin : ∀ q x, finB f (q + 1) x = if x = 32 + q then S / 2 ^ (8 * q) % 256 else finB f q x := fun q x => by
        unfold finB b60
        rw [eS]
        by_cases h : x = 32 + q
        · rw [if_pos (by omega), if_neg (by omega), if_pos h, h, Nat.add_sub_cancel_left]
        · rw [if_neg h]
          by_cases h2 : x < 32 + q
          · rw [if_pos (by omega), if_pos h2]
          · rw [if_neg (by omega), if_neg h2]
      rw [eS] at hb0
      have eS8 : sg f (8 * 32) = S := eS
      obtain ⟨P9, eP9⟩ : ∃ P9 : Int, (2 : Int) ^ rk f (8 * 32) = P9 := ⟨_, rfl⟩
      rw [eS8, eP9]
      have HFIN := Lib.hid hfin
      clear hbk hfin eS eS8 eP9 k0
      go_wp2_with fail
      go_loopw [8] (fun y wr => ∃ q : Nat, q ≤ 8 ∧ y = .int .u64 (q : Nat) ∧ Only bd w wr ∧ Blk wr bd Td (cellsF 40 (ints .u8 (finB f q)))) (fun y _ => 8 - (intOf y).toNat)
      case atStart => exact ⟨0, by omega, rfl, hon, hk1⟩
      case round =>
        clear hon hk1
        obtain ⟨q, hq, rfl, hon, hbk⟩ := hrel
        by_cases hq8 : q < 8
        · obtain ⟨t, et⟩ : ∃ t : Nat, t = 32 + q := ⟨_, rfl⟩
          obtain ⟨e8, ee8⟩ : ∃ e8 : Nat, e8 = 8 * q := ⟨_, rfl⟩
          have zt : (q : Int) + 32 = (t : Int) := by omega
          have ze : 8 * (q : Int) = (e8 : Int) := by omega
          have ut : IntKind.u64.wrap (t : Int) = (t : Int) := by rw [wrap_u64']; omega
          have ut2 : (t : Int) % 18446744073709551616 = (t : Int) := by omega
          have ue : IntKind.u64.wrap (e8 : Int) = (e8 : Int) := by rw [wrap_u64']; omega
          have ue2 : (e8 : Int) % 18446744073709551616 = (e8 : Int) := by omega
          have uq : IntKind.u64.wrap ((q : Int) + 1) = (q : Int) + 1 := by rw [wrap_u64']; omega
          have uq2 : ((q : Int) + 1) % 18446744073709551616 = (q : Int) + 1 := by omega
          have tt : (t : Int) < 40 := by omega
          obtain ⟨v, ev⟩ : ∃ v, S / 2 ^ e8 % 256 = v := ⟨_, rfl⟩
          have ev2 : IntKind.u8.wrap (S / 2 ^ e8) = v := by rw [IntKind.wrap_u8]; exact ev
          have hst := HFIN.out q
          rw [← et, ← ee8, ev] at hst
          have ca : wr.cell? ⟨bd, t, none⟩ = some (.int .u8 (finB f q t)) := hbk.cell (by omega)
          have fp := hbk.frozen t
          have HST := Lib.hid hst
          clear hst et ee8
          go_wp2_with fail
          go_roundw
          case rel =>
            refine ⟨q + 1, by omega, by go_num, hon.setCell _, (hbk.setCell t (.int .u8 v)).congr fun x _ => ?_⟩
            show _ = Value.int .u8 (finB f (q + 1) x)
            rw [HST.out x]
            split <;> rfl
          case measure => simp [intOf]; omega
        · have hq' : q = 8 := by omega
          subst hq'
          go_wp2_with fail
          go_end0
          exact ⟨rfl, hon, hbk.congr fun x hx => by show Value.int _ _ = Value.int _ _; unfold finB; rw [if_pos (by omega)]⟩

end Go.Proofs.Ytcgliedglahphaa
