/- Decompress (Kyber) at d = 4. -/
import Derived.Test.YtngmpnkhdjnhoaaKTan
import Derived.Test.YtngmpnkhdjnhoaaEncK
import Derived.Test.YtngmpnkhdjnhoaaOnly2
import Derived.Test.YtngmpnkhdjnhoaaBits
import Derived.Lib.Hide
namespace Go.Proofs.Ytngmpnkhdjnhoaa.decomp4
open Go Go.Proofs Go.RowKit Go.Kd
set_option linter.unusedSimpArgs false
set_option linter.unusedVariables false
theorem and_u8 (x : Int) (n : Nat) (m : Int) (hm : m = ((2 ^ n - 1 : Nat) : Int)) (hn : n ≤ 8) : bits BinOp.and IntKind.u8 x m = x % ((2 ^ n : Nat) : Int) := by
  subst hm
  have h32 : 2 ^ n ≤ 2 ^ 8 := Nat.pow_le_pow_right (by omega) hn
  have h1 : 1 ≤ 2 ^ n := Nat.one_le_two_pow
  show IntKind.u8.wrap ((BitVec.ofInt 8 x &&& BitVec.ofInt 8 ((2 ^ n - 1 : Nat) : Int)).toNat : Int) = _
  obtain ⟨y, hy⟩ : ∃ y : Nat, (y : Int) = x % 256 := ⟨(x % 256).toNat, by omega⟩
  have e1 : (BitVec.ofInt 8 x).toNat = y := by rw [BitVec.toNat_ofInt]; omega
  have e2 : (BitVec.ofInt 8 ((2 ^ n - 1 : Nat) : Int)).toNat = 2 ^ n - 1 := by rw [BitVec.toNat_ofInt]; omega
  rw [BitVec.toNat_and, e1, e2, Nat.and_two_pow_sub_one_eq_mod, IntKind.wrap_u8]
  have h2 : y % 2 ^ n < 2 ^ n := Nat.mod_lt _ (by omega)
  have hd : ((2 ^ n : Nat) : Int) ∣ 256 := by
    have : 2 ^ n ∣ 2 ^ 8 := Nat.pow_dvd_pow 2 (by omega)
    exact Int.natCast_dvd_natCast.2 this
  have h3 : ((y % 2 ^ n : Nat) : Int) = x % ((2 ^ n : Nat) : Int) := by
    rw [show ((y % 2 ^ n : Nat) : Int) = (y : Int) % ((2 ^ n : Nat) : Int) from rfl, hy, Int.emod_emod_of_dvd _ hd]
  rw [← h3]
  generalize y % 2 ^ n = q at *
  omega

theorem ar0 (x0 g : Int) (h_x0 : 0 ≤ x0 ∧ x0 ≤ 255) (hg : g = (8 + (x0) % 16 * 3329) / 16) : ∃ y1 y2 y3 y4 y5 y6 : Int, bits .and .u8 x0 15 = y1 ∧ IntKind.u32.wrap y1 = y2 ∧ IntKind.u32.wrap (y2 * 3329) = y3 ∧ IntKind.u32.wrap (8 + y3) = y4 ∧ y4 / 16 = y5 ∧ IntKind.i16.wrap y5 = y6 ∧ (y1) % 4294967296 = y2 ∧ (y2 * 3329) % 4294967296 = y3 ∧ (8 + y3) % 4294967296 = y4 ∧ y6 = g := by
  obtain ⟨y1, hy1⟩ : ∃ y, bits .and .u8 x0 15 = y := ⟨_, rfl⟩
  have my1 : y1 = x0 % 16 := by rw [← hy1]; exact and_u8 x0 4 _ (by decide) (by decide)
  obtain ⟨y2, hy2⟩ : ∃ y, IntKind.u32.wrap y1 = y := ⟨_, rfl⟩
  have my2 : y2 = (y1) % 4294967296 := by rw [← hy2, IntKind.wrap_u32]
  have ey2 : y2 = y1 := by omega
  obtain ⟨y3, hy3⟩ : ∃ y, IntKind.u32.wrap (y2 * 3329) = y := ⟨_, rfl⟩
  have my3 : y3 = (y2 * 3329) % 4294967296 := by rw [← hy3, IntKind.wrap_u32]
  have ey3 : y3 = y2 * 3329 := by omega
  obtain ⟨y4, hy4⟩ : ∃ y, IntKind.u32.wrap (8 + y3) = y := ⟨_, rfl⟩
  have my4 : y4 = (8 + y3) % 4294967296 := by rw [← hy4, IntKind.wrap_u32]
  have ey4 : y4 = 8 + y3 := by omega
  obtain ⟨y5, hy5⟩ : ∃ y, y4 / 16 = y := ⟨_, rfl⟩
  have my5 : y5 = y4 / 16 := hy5.symm
  obtain ⟨y6, hy6⟩ : ∃ y, IntKind.i16.wrap y5 = y := ⟨_, rfl⟩
  have my6 : y6 = (y5 + 32768) % 65536 - 32768 := by rw [← hy6, wrap_i16']
  have ey6 : y6 = y5 := by omega
  exact ⟨y1, y2, y3, y4, y5, y6, hy1, hy2, hy3, hy4, hy5, hy6, my2.symm, my3.symm, my4.symm, by rw [hg, ey6, my5, ey4, ey3, ey2, my1]⟩
theorem ar1 (x0 g : Int) (h_x0 : 0 ≤ x0 ∧ x0 ≤ 255) (hg : g = (8 + (x0 / 16) % 16 * 3329) / 16) : ∃ y7 y8 y9 y10 y11 y12 : Int, x0 / 16 = y7 ∧ IntKind.u32.wrap y7 = y8 ∧ IntKind.u32.wrap (y8 * 3329) = y9 ∧ IntKind.u32.wrap (8 + y9) = y10 ∧ y10 / 16 = y11 ∧ IntKind.i16.wrap y11 = y12 ∧ (y7) % 4294967296 = y8 ∧ (y8 * 3329) % 4294967296 = y9 ∧ (8 + y9) % 4294967296 = y10 ∧ y12 = g := by
  obtain ⟨y7, hy7⟩ : ∃ y, x0 / 16 = y := ⟨_, rfl⟩
  have my7 : y7 = x0 / 16 := hy7.symm
  obtain ⟨y8, hy8⟩ : ∃ y, IntKind.u32.wrap y7 = y := ⟨_, rfl⟩
  have my8 : y8 = (y7) % 4294967296 := by rw [← hy8, IntKind.wrap_u32]
  have ey8 : y8 = y7 := by omega
  obtain ⟨y9, hy9⟩ : ∃ y, IntKind.u32.wrap (y8 * 3329) = y := ⟨_, rfl⟩
  have my9 : y9 = (y8 * 3329) % 4294967296 := by rw [← hy9, IntKind.wrap_u32]
  have ey9 : y9 = y8 * 3329 := by omega
  obtain ⟨y10, hy10⟩ : ∃ y, IntKind.u32.wrap (8 + y9) = y := ⟨_, rfl⟩
  have my10 : y10 = (8 + y9) % 4294967296 := by rw [← hy10, IntKind.wrap_u32]
  have ey10 : y10 = 8 + y9 := by omega
  obtain ⟨y11, hy11⟩ : ∃ y, y10 / 16 = y := ⟨_, rfl⟩
  have my11 : y11 = y10 / 16 := hy11.symm
  obtain ⟨y12, hy12⟩ : ∃ y, IntKind.i16.wrap y11 = y := ⟨_, rfl⟩
  have my12 : y12 = (y11 + 32768) % 65536 - 32768 := by rw [← hy12, wrap_i16']
  have ey12 : y12 = y11 := by omega
  exact ⟨y7, y8, y9, y10, y11, y12, hy7, hy8, hy9, hy10, hy11, hy12, my8.symm, my9.symm, my10.symm, by rw [hg, show x0 / 16 % 16 = x0 / 16 by omega, ey12, my11, ey10, ey9, ey8, my7]⟩
set_option maxRecDepth 100000 in
set_option maxHeartbeats 20000000 in
theorem any (bs bd cp : Nat) (w0 w : World) (Td : TypeId) (f G Z : Nat → Int) (hs0 : RowK w bs 128 .u8 f) (hd0 : Blk w bd Td (cellsF 256 (ints .i16 Z))) (hne : bs ≠ bd) (hx0 : Ext w0 w) (hsz : w0.heap.size ≤ bd) (hf : ∀ i, i < 128 → 0 ≤ f i ∧ f i ≤ 255)
    (hG0 : ∀ r, r < 128 → G (2 * r + 0) = (8 + (f (1 * r + 0)) % 16 * 3329) / 16) (hG1 : ∀ r, r < 128 → G (2 * r + 1) = (8 + (f (1 * r + 0) / 16) % 16 * 3329) / 16) :
    Calls Try.prog 36 #[.pointer (some ⟨bd, 0, none⟩), .slice (some ⟨bs, 0, none⟩) 128 cp, .int .i64 4] w fun e w' => e = .returned (.tuple #[]) ∧ Ext w0 w' ∧ Blk w' bd Td (cellsF 256 (ints .i16 G)) := by
  have hs := hs0
  have hd := hd0
  have HX := Lib.hid hx0
  clear hs0 hd0 hx0
  go_enter Try.func36, Try.ntmps36
  go_wp2_with fail
  go_loopw [6] (fun y wr => ∃ r : Nat, r ≤ 128 ∧ y = .int .i64 (r : Nat) ∧ Only bd w wr ∧ Blk wr bd Td (cellsF 256 (upto (2 * r) (ints .i16 G) (ints .i16 Z)))) (fun y _ => 128 - (intOf y).toNat)
  case atStart => exact ⟨0, by omega, rfl, Only.refl _ _, by rw [upto_zero]; exact hd⟩
  case round =>
    obtain ⟨r, hr, rfl, hon, hbk⟩ := hrel
    by_cases hl : r < 128
    · have hrow : ∀ w1, Only bd w w1 → RowK w1 bs 128 .u8 f := fun w1 h => hs.only hne h
      obtain ⟨p0, ep0⟩ : ∃ p : Nat, p = 2 * r + 0 := ⟨_, rfl⟩
      obtain ⟨p1, ep1⟩ : ∃ p : Nat, p = 2 * r + 1 := ⟨_, rfl⟩
      obtain ⟨la, lb⟩ := hf r (by omega)
      have gg0 : G p0 = (8 + f r % 16 * 3329) / 16 := by rw [ep0, hG0 r hl, Nat.one_mul, Nat.add_zero]
      have gg1 : G p1 = (8 + f r / 16 % 16 * 3329) / 16 := by rw [ep1, hG1 r hl, Nat.one_mul, Nat.add_zero]
      have rc : ∀ w1, Only bd w w1 → w1.cell? ⟨bs, r, none⟩ = some (.int .u8 (f r)) := fun w1 h => (hrow w1 h).2 r hl
      generalize f r = x0 at *
      generalize hg0 : G p0 = g0 at *
      generalize hg1 : G p1 = g1 at *
      have HG0 := Lib.hid hg0; clear hg0
      have HG1 := Lib.hid hg1; clear hg1
      obtain ⟨y1, y2, y3, y4, y5, y6, hy1, hy2, hy3, hy4, hy5, hy6, my2, my3, my4, fing0⟩ := ar0 x0 g0 ⟨la, lb⟩ gg0
      obtain ⟨y7, y8, y9, y10, y11, y12, hy7, hy8, hy9, hy10, hy11, hy12, my8, my9, my10, fing1⟩ := ar1 x0 g1 ⟨la, lb⟩ gg1
      have FIN0 := Lib.hid fing0; clear fing0 gg0
      have FIN1 := Lib.hid fing1; clear fing1 gg1
      have zp0 : 2 * (r : Int) = (p0 : Int) := by omega
      have zp1 : (p0 : Int) + 1 = (p1 : Int) := by omega
      have up0 : IntKind.i64.wrap (p0 : Int) = (p0 : Int) := by rw [IntKind.wrap_i64]; omega
      have tp0 : (p0 : Int) < 256 := by omega
      have np0 : p0 < 256 := by omega
      have up1 : IntKind.i64.wrap (p1 : Int) = (p1 : Int) := by rw [IntKind.wrap_i64]; omega
      have tp1 : (p1 : Int) < 256 := by omega
      have np1 : p1 < 256 := by omega
      have tr : (r : Int) < 128 := by omega
      have Ep0 := Lib.hid ep0; clear ep0
      have Ep1 := Lib.hid ep1; clear ep1
      have RC := Lib.hid rc
      have ca := rc wr hon
      clear hs hd hf hG0 hG1 hrow rc
      go_wp2_with fail
      go_still_tail 15, (by kernel_rfl)
      refine wpList_storeI info16 (.tmp 41) (.tmp 39) bd p0 .i16 y6 hbk.drew np0 rfl rfl rfl rfl ?_
      intro w1 o1 k1
      have on1 := hon.drew.trans o1
      clear ca
      have ca := RC.out w1 on1
      simp only [Act.put]
      clear hy1 hy2 hy3 hy4 hy5 hy6 my2 my3 my4
      go_wp2_with fail
      go_still_tail 16, (by kernel_rfl)
      refine wpList_storeI info16 (.tmp 57) (.tmp 55) bd p1 .i16 y12 k1.drew np1 rfl rfl rfl rfl ?_
      intro w2 o2 k2
      have on2 := on1.drew.trans o2
      clear ca
      have ca := RC.out w2 on2
      simp only [Act.put]
      clear hy7 hy8 hy9 hy10 hy11 hy12 my8 my9 my10
      go_wp2_with fail
      go_roundw
      case rel =>
        have ep0 := Ep0.out
        have ep1 := Ep1.out
        refine ⟨r + 1, by omega, by go_num, on2, ?_⟩
        refine k2.congr fun x hx => ?_
        unfold upto ints
        by_cases c1 : x = p1
        · rw [if_pos c1, if_pos (by omega), c1, HG1.out, FIN1.out]
        rw [if_neg c1]
        by_cases c0 : x = p0
        · rw [if_pos c0, if_pos (by omega), c0, HG0.out, FIN0.out]
        rw [if_neg c0]
        by_cases hlt : x < 2 * r
        · rw [if_pos hlt, if_pos (by omega)]
        · rw [if_neg hlt, if_neg (by omega)]
      case measure => simp [intOf]; omega
    · have hr' : r = 128 := by omega
      subst hr'
      go_wp2_with fail
      go_end0
      exact ⟨rfl, hon.ext HX.out hsz, by rw [show 2 * 128 = 256 by omega, upto_all] at hbk; exact hbk⟩
end Go.Proofs.Ytngmpnkhdjnhoaa.decomp4
