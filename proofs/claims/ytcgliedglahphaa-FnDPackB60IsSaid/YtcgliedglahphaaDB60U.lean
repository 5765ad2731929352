/- UnpackB60 (Dilithium). -/
import Derived.Test.YtcgliedglahphaaDB60
import Derived.Lib.Hide
namespace Go.Proofs.Ytcgliedglahphaa
open Go Go.Proofs Go.RowKit Go.Kd
set_option linter.unusedSimpArgs false
set_option linter.unusedVariables false

theorem comb_ar (x1 x0 x2 x3 x4 x5 x6 x7 g : Int) (h_x1 : 0 ≤ x1 ∧ x1 ≤ 255) (h_x0 : 0 ≤ x0 ∧ x0 ≤ 255) (h_x2 : 0 ≤ x2 ∧ x2 ≤ 255) (h_x3 : 0 ≤ x3 ∧ x3 ≤ 255) (h_x4 : 0 ≤ x4 ∧ x4 ≤ 255) (h_x5 : 0 ≤ x5 ∧ x5 ≤ 255) (h_x6 : 0 ≤ x6 ∧ x6 ≤ 255) (h_x7 : 0 ≤ x7 ∧ x7 ≤ 255) (hg : g = x0 + x1 * 256 + x2 * 65536 + x3 * 16777216 + x4 * 4294967296 + x5 * 1099511627776 + x6 * 281474976710656 + x7 * 72057594037927936) : ∃ y1 y2 y3 y4 y5 y6 y7 y8 y9 y10 y11 y12 y13 y14 : Int, IntKind.u64.wrap (x1 * 256) = y1 ∧ bits .or .u64 x0 y1 = y2 ∧ IntKind.u64.wrap (x2 * 65536) = y3 ∧ bits .or .u64 y2 y3 = y4 ∧ IntKind.u64.wrap (x3 * 16777216) = y5 ∧ bits .or .u64 y4 y5 = y6 ∧ IntKind.u64.wrap (x4 * 4294967296) = y7 ∧ bits .or .u64 y6 y7 = y8 ∧ IntKind.u64.wrap (x5 * 1099511627776) = y9 ∧ bits .or .u64 y8 y9 = y10 ∧ IntKind.u64.wrap (x6 * 281474976710656) = y11 ∧ bits .or .u64 y10 y11 = y12 ∧ IntKind.u64.wrap (x7 * 72057594037927936) = y13 ∧ bits .or .u64 y12 y13 = y14 ∧ (x1 * 256) % 18446744073709551616 = y1 ∧ (x2 * 65536) % 18446744073709551616 = y3 ∧ (x3 * 16777216) % 18446744073709551616 = y5 ∧ (x4 * 4294967296) % 18446744073709551616 = y7 ∧ (x5 * 1099511627776) % 18446744073709551616 = y9 ∧ (x6 * 281474976710656) % 18446744073709551616 = y11 ∧ (x7 * 72057594037927936) % 18446744073709551616 = y13 ∧ y14 = g := by
  obtain ⟨y1, hy1⟩ : ∃ y, IntKind.u64.wrap (x1 * 256) = y := ⟨_, rfl⟩
  have my1 : y1 = (x1 * 256) % 18446744073709551616 := by rw [← hy1, wrap_u64']
  obtain ⟨y2, hy2⟩ : ∃ y, bits .or .u64 x0 y1 = y := ⟨_, rfl⟩
  have my2 : y2 = x0 + y1 := by rw [← hy2]; exact or_u64 x0 y1 8 (y1 / 256) (by omega) (by omega) (by omega) (by omega) (by omega)
  obtain ⟨y3, hy3⟩ : ∃ y, IntKind.u64.wrap (x2 * 65536) = y := ⟨_, rfl⟩
  have my3 : y3 = (x2 * 65536) % 18446744073709551616 := by rw [← hy3, wrap_u64']
  obtain ⟨y4, hy4⟩ : ∃ y, bits .or .u64 y2 y3 = y := ⟨_, rfl⟩
  have my4 : y4 = y2 + y3 := by rw [← hy4]; exact or_u64 y2 y3 16 (y3 / 65536) (by omega) (by omega) (by omega) (by omega) (by omega)
  obtain ⟨y5, hy5⟩ : ∃ y, IntKind.u64.wrap (x3 * 16777216) = y := ⟨_, rfl⟩
  have my5 : y5 = (x3 * 16777216) % 18446744073709551616 := by rw [← hy5, wrap_u64']
  obtain ⟨y6, hy6⟩ : ∃ y, bits .or .u64 y4 y5 = y := ⟨_, rfl⟩
  have my6 : y6 = y4 + y5 := by rw [← hy6]; exact or_u64 y4 y5 24 (y5 / 16777216) (by omega) (by omega) (by omega) (by omega) (by omega)
  obtain ⟨y7, hy7⟩ : ∃ y, IntKind.u64.wrap (x4 * 4294967296) = y := ⟨_, rfl⟩
  have my7 : y7 = (x4 * 4294967296) % 18446744073709551616 := by rw [← hy7, wrap_u64']
  obtain ⟨y8, hy8⟩ : ∃ y, bits .or .u64 y6 y7 = y := ⟨_, rfl⟩
  have my8 : y8 = y6 + y7 := by rw [← hy8]; exact or_u64 y6 y7 32 (y7 / 4294967296) (by omega) (by omega) (by omega) (by omega) (by omega)
  obtain ⟨y9, hy9⟩ : ∃ y, IntKind.u64.wrap (x5 * 1099511627776) = y := ⟨_, rfl⟩
  have my9 : y9 = (x5 * 1099511627776) % 18446744073709551616 := by rw [← hy9, wrap_u64']
  obtain ⟨y10, hy10⟩ : ∃ y, bits .or .u64 y8 y9 = y := ⟨_, rfl⟩
  have my10 : y10 = y8 + y9 := by rw [← hy10]; exact or_u64 y8 y9 40 (y9 / 1099511627776) (by omega) (by omega) (by omega) (by omega) (by omega)
  obtain ⟨y11, hy11⟩ : ∃ y, IntKind.u64.wrap (x6 * 281474976710656) = y := ⟨_, rfl⟩
  have my11 : y11 = (x6 * 281474976710656) % 18446744073709551616 := by rw [← hy11, wrap_u64']
  obtain ⟨y12, hy12⟩ : ∃ y, bits .or .u64 y10 y11 = y := ⟨_, rfl⟩
  have my12 : y12 = y10 + y11 := by rw [← hy12]; exact or_u64 y10 y11 48 (y11 / 281474976710656) (by omega) (by omega) (by omega) (by omega) (by omega)
  obtain ⟨y13, hy13⟩ : ∃ y, IntKind.u64.wrap (x7 * 72057594037927936) = y := ⟨_, rfl⟩
  have my13 : y13 = (x7 * 72057594037927936) % 18446744073709551616 := by rw [← hy13, wrap_u64']
  obtain ⟨y14, hy14⟩ : ∃ y, bits .or .u64 y12 y13 = y := ⟨_, rfl⟩
  have my14 : y14 = y12 + y13 := by rw [← hy14]; exact or_u64 y12 y13 56 (y13 / 72057594037927936) (by omega) (by omega) (by omega) (by omega) (by omega)
  exact ⟨y1, y2, y3, y4, y5, y6, y7, y8, y9, y10, y11, y12, y13, y14, hy1, hy2, hy3, hy4, hy5, hy6, hy7, hy8, hy9, hy10, hy11, hy12, hy13, hy14, my1.symm, my3.symm, my5.symm, my7.symm, my9.symm, my11.symm, my13.symm, by rw [hg]; omega⟩
theorem and1u8 (x : Int) (h : 0 ≤ x ∧ x ≤ 255) : bits .and .u8 x 1 = x % 2 := by
  show IntKind.u8.wrap ((BitVec.ofInt 8 x &&& BitVec.ofInt 8 1).toNat : Int) = _
  have h2 : (BitVec.ofInt 8 1).toNat = 1 := by decide
  rw [BitVec.toNat_and, h2, Nat.and_one_is_mod, BitVec.toNat_ofInt, IntKind.wrap_u8]
  omega
theorem octet_bit (bit : Nat → Int) (hb : ∀ q, 0 ≤ bit q ∧ bit q ≤ 1) (t j : Nat) (hj : j < 8) : octet bit t 8 / 2 ^ j % 2 = bit (8 * t + j) := by
  have b0 := hb (8 * t + 0)
  have b1 := hb (8 * t + 1)
  have b2 := hb (8 * t + 2)
  have b3 := hb (8 * t + 3)
  have b4 := hb (8 * t + 4)
  have b5 := hb (8 * t + 5)
  have b6 := hb (8 * t + 6)
  have b7 := hb (8 * t + 7)
  simp only [octet]
  have h : j = 0 ∨ j = 1 ∨ j = 2 ∨ j = 3 ∨ j = 4 ∨ j = 5 ∨ j = 6 ∨ j = 7 := by omega
  generalize hx0 : bit (8 * t + 0) = y0 at *
  generalize hx1 : bit (8 * t + 1) = y1 at *
  generalize hx2 : bit (8 * t + 2) = y2 at *
  generalize hx3 : bit (8 * t + 3) = y3 at *
  generalize hx4 : bit (8 * t + 4) = y4 at *
  generalize hx5 : bit (8 * t + 5) = y5 at *
  generalize hx6 : bit (8 * t + 6) = y6 at *
  generalize hx7 : bit (8 * t + 7) = y7 at *
  rcases h with h | h | h | h | h | h | h | h <;> subst h
  · rw [hx0]; omega
  · rw [hx1]; omega
  · rw [hx2]; omega
  · rw [hx3]; omega
  · rw [hx4]; omega
  · rw [hx5]; omega
  · rw [hx6]; omega
  · rw [hx7]; omega
set_option maxRecDepth 100000 in
set_option maxHeartbeats 4000000 in
theorem unpackB60_any (bs bd cp : Nat) (w : World) (Td : TypeId) (f Z : Nat → Int) (hs0 : RowK w bs 40 .u8 (b60 f)) (hd : Blk w bd Td (cellsF 256 (ints .u32 Z))) (hne : bs ≠ bd) (hf : ∀ i, i < 256 → f i = 0 ∨ f i = 1 ∨ f i = 8380416) (h60 : rk f 256 ≤ 60) :
    Calls Try.prog 7 #[.pointer (some ⟨bd, 0, none⟩), .slice (some ⟨bs, 0, none⟩) 40 cp] w fun e w' => e = .returned (.bool true) ∧ Only bd w w' ∧ Blk w' bd Td (cellsF 256 (ints .u32 f)) := by
  have hb0 := sg_bd f 256
  have hple : (2 : Int) ^ rk f 256 ≤ 1152921504606846976 := by
    have h : 2 ^ rk f 256 ≤ 2 ^ 60 := Nat.pow_le_pow_right (by omega) h60
    have h2 : ((2 ^ rk f 256 : Nat) : Int) ≤ ((2 ^ 60 : Nat) : Int) := Int.ofNat_le.2 h
    have e1 : ((2 ^ rk f 256 : Nat) : Int) = (2 : Int) ^ rk f 256 := by push_cast; rfl
    have e2 : ((2 ^ 60 : Nat) : Int) = 1152921504606846976 := by decide
    rw [e1, e2] at h2
    exact h2
  have hbit := sg_bit f
  obtain ⟨S, eS⟩ : ∃ S, sg f 256 = S := ⟨_, rfl⟩
  have hxs : b60 f 32 = S % 256 ∧ b60 f 33 = S / 256 % 256 ∧ b60 f 34 = S / 65536 % 256 ∧ b60 f 35 = S / 16777216 % 256 ∧ b60 f 36 = S / 4294967296 % 256 ∧ b60 f 37 = S / 1099511627776 % 256 ∧ b60 f 38 = S / 281474976710656 % 256 ∧ b60 f 39 = S / 72057594037927936 % 256 := by
    unfold b60
    rw [eS]
    refine ⟨?_, ?_, ?_, ?_, ?_, ?_, ?_, ?_⟩
    all_goals rw [if_neg (by omega)]
    · rw [show (2 : Int) ^ (8 * (32 - 32)) = 1 by decide, Int.ediv_one]
    · rw [show (2 : Int) ^ (8 * (33 - 32)) = 256 by decide]
    · rw [show (2 : Int) ^ (8 * (34 - 32)) = 65536 by decide]
    · rw [show (2 : Int) ^ (8 * (35 - 32)) = 16777216 by decide]
    · rw [show (2 : Int) ^ (8 * (36 - 32)) = 4294967296 by decide]
    · rw [show (2 : Int) ^ (8 * (37 - 32)) = 1099511627776 by decide]
    · rw [show (2 : Int) ^ (8 * (38 - 32)) = 281474976710656 by decide]
    · rw [show (2 : Int) ^ (8 * (39 - 32)) = 72057594037927936 by decide]
  rw [eS] at hb0
  simp only [eS] at hbit
  obtain ⟨hx0, hx1, hx2, hx3, hx4, hx5, hx6, hx7⟩ := hxs
  have hS : 0 ≤ S ∧ S < 1152921504606846976 := by omega
  have HBIT := Lib.hid hbit
  have HF := Lib.hid hf
  have HS0 := Lib.hid hs0
  clear hb0 hple hbit eS hf h60 hs0
  go_enter Try.func7, Try.ntmps7
  go_wp2_with (first | (refine wpList_build0 intP _ zeroP rfl rfl ?_; simp only [Act.put, List.setIfInBounds_toArray, List.set]) | (refine wpList_storeA arrP (.tmp 10) (.tmp 9) bd _ _ hd (size_cellsF _ _) (size_cellsF _ _) (one_cellsF _ _ _) rfl rfl rfl rfl ?_; simp only [Act.put]; clear hd; intro w1 o1 k1))
  have hs := HS0.out.only hne o1
  have ca0 := hs.2 32 (by omega)
  rw [hx0] at ca0
  have ca1 := hs.2 33 (by omega)
  rw [hx1] at ca1
  have ca2 := hs.2 34 (by omega)
  rw [hx2] at ca2
  have ca3 := hs.2 35 (by omega)
  rw [hx3] at ca3
  have ca4 := hs.2 36 (by omega)
  rw [hx4] at ca4
  have ca5 := hs.2 37 (by omega)
  rw [hx5] at ca5
  have ca6 := hs.2 38 (by omega)
  rw [hx6] at ca6
  have ca7 := hs.2 39 (by omega)
  rw [hx7] at ca7
  have d2 : S / 65536 = S / 256 / 256 := by omega
  have d3 : S / 16777216 = S / 65536 / 256 := by omega
  have d4 : S / 4294967296 = S / 16777216 / 256 := by omega
  have d5 : S / 1099511627776 = S / 4294967296 / 256 := by omega
  have d6 : S / 281474976710656 = S / 1099511627776 / 256 := by omega
  have d7 : S / 72057594037927936 = S / 281474976710656 / 256 := by omega
  obtain ⟨x0, ex0⟩ : ∃ x, S % 256 = x := ⟨_, rfl⟩
  rw [ex0] at ca0
  obtain ⟨x1, ex1⟩ : ∃ x, S / 256 % 256 = x := ⟨_, rfl⟩
  rw [ex1] at ca1
  obtain ⟨x2, ex2⟩ : ∃ x, S / 65536 % 256 = x := ⟨_, rfl⟩
  rw [ex2] at ca2
  obtain ⟨x3, ex3⟩ : ∃ x, S / 16777216 % 256 = x := ⟨_, rfl⟩
  rw [ex3] at ca3
  obtain ⟨x4, ex4⟩ : ∃ x, S / 4294967296 % 256 = x := ⟨_, rfl⟩
  rw [ex4] at ca4
  obtain ⟨x5, ex5⟩ : ∃ x, S / 1099511627776 % 256 = x := ⟨_, rfl⟩
  rw [ex5] at ca5
  obtain ⟨x6, ex6⟩ : ∃ x, S / 281474976710656 % 256 = x := ⟨_, rfl⟩
  rw [ex6] at ca6
  obtain ⟨x7, ex7⟩ : ∃ x, S / 72057594037927936 % 256 = x := ⟨_, rfl⟩
  rw [ex7] at ca7
  have hsum : S = x0 + x1 * 256 + x2 * 65536 + x3 * 16777216 + x4 * 4294967296 + x5 * 1099511627776 + x6 * 281474976710656 + x7 * 72057594037927936 := by omega
  have lx0 : 0 ≤ x0 ∧ x0 ≤ 255 := by omega
  have lx1 : 0 ≤ x1 ∧ x1 ≤ 255 := by omega
  have lx2 : 0 ≤ x2 ∧ x2 ≤ 255 := by omega
  have lx3 : 0 ≤ x3 ∧ x3 ≤ 255 := by omega
  have lx4 : 0 ≤ x4 ∧ x4 ≤ 255 := by omega
  have lx5 : 0 ≤ x5 ∧ x5 ≤ 255 := by omega
  have lx6 : 0 ≤ x6 ∧ x6 ≤ 255 := by omega
  have lx7 : 0 ≤ x7 ∧ x7 ≤ 255 := by omega
  obtain ⟨y1, y2, y3, y4, y5, y6, y7, y8, y9, y10, y11, y12, y13, y14, hy1, hy2, hy3, hy4, hy5, hy6, hy7, hy8, hy9, hy10, hy11, hy12, hy13, hy14, my1, my3, my5, my7, my9, my11, my13, finS⟩ := comb_ar x1 x0 x2 x3 x4 x5 x6 x7 S lx1 lx0 lx2 lx3 lx4 lx5 lx6 lx7 hsum
  have wd_u64_x0 : IntKind.u64.wrap x0 = x0 := by rw [wrap_u64']; omega
  have wm_u64_x0 : x0 % 18446744073709551616 = x0 := by omega
  have wd_u64_x1 : IntKind.u64.wrap x1 = x1 := by rw [wrap_u64']; omega
  have wm_u64_x1 : x1 % 18446744073709551616 = x1 := by omega
  have wd_u64_x2 : IntKind.u64.wrap x2 = x2 := by rw [wrap_u64']; omega
  have wm_u64_x2 : x2 % 18446744073709551616 = x2 := by omega
  have wd_u64_x3 : IntKind.u64.wrap x3 = x3 := by rw [wrap_u64']; omega
  have wm_u64_x3 : x3 % 18446744073709551616 = x3 := by omega
  have wd_u64_x4 : IntKind.u64.wrap x4 = x4 := by rw [wrap_u64']; omega
  have wm_u64_x4 : x4 % 18446744073709551616 = x4 := by omega
  have wd_u64_x5 : IntKind.u64.wrap x5 = x5 := by rw [wrap_u64']; omega
  have wm_u64_x5 : x5 % 18446744073709551616 = x5 := by omega
  have wd_u64_x6 : IntKind.u64.wrap x6 = x6 := by rw [wrap_u64']; omega
  have wm_u64_x6 : x6 % 18446744073709551616 = x6 := by omega
  have wd_u64_x7 : IntKind.u64.wrap x7 = x7 := by rw [wrap_u64']; omega
  have wm_u64_x7 : x7 % 18446744073709551616 = x7 := by omega
  have FIN := Lib.hid finS
  clear finS hsum ex0 hx0 ex1 hx1 ex2 hx2 ex3 hx3 ex4 hx4 ex5 hx5 ex6 hx6 ex7 hx7 d2 d3 d4 d5 d6 d7
  go_wp2_with fail
  go_still_tail 46, (by kernel_rfl)
  have hyS : y14 = S := FIN.out
  have h60 : S / 1152921504606846976 = 0 := by omega
  clear hy1 hy2 hy3 hy4 hy5 hy6 hy7 hy8 hy9 hy10 hy11 hy12 hy13 hy14 my1 my3 my5 my7 my9 my11 my13 FIN
  have hyS2 : S = y14 := hyS.symm
  clear hyS
  subst hyS2
  have w1z : Blk w1 bd Td (cellsF 256 (ints .u32 fun _ => 0)) := k1
  have hq0 : S / 2 ^ rk f 0 = S := by show S / 2 ^ 0 = S; rw [Int.pow_zero, Int.ediv_one]
  go_wp2_with fail
  go_loopw [6, 5] (fun x y wr => ∃ r : Nat, r ≤ 32 ∧ x = .int .i64 (r : Nat) ∧ y = .int .u64 (S / 2 ^ rk f (8 * r)) ∧ Only bd w wr ∧ Blk wr bd Td (cellsF 256 (upto (8 * r) (ints .u32 f) (ints .u32 fun _ => 0)))) (fun x _ _ => 32 - (intOf x).toNat)
  case atStart => exact ⟨0, by omega, rfl, by rw [Nat.mul_zero, hq0], o1.drew, by rw [Nat.mul_zero, upto_zero]; exact w1z.drew⟩
  case round =>
    obtain ⟨r, hr, rfl, rfl, hon, hbk⟩ := hrel
    by_cases hl : r < 32
    · clear k1 w1z ca0 ca1 ca2 ca3 ca4 ca5 ca6 ca7
      obtain ⟨q0, eq0⟩ : ∃ q0, S / 2 ^ rk f (8 * r) = q0 := ⟨_, rfl⟩
      rw [eq0]
      have HQ0 := Lib.hid eq0
      clear eq0
      go_wp2_with fail
      have hjz : decide ((r : Int) < 32) = true := decide_eq_true (by omega)
      try rw [hjz]
      clear hjz
      go_loopw [7, 5] (fun x y wr => ∃ j : Nat, j ≤ 8 ∧ x = .int .i64 (j : Nat) ∧ y = .int .u64 (S / 2 ^ rk f (8 * r + j)) ∧ Only bd w wr ∧ Blk wr bd Td (cellsF 256 (upto (8 * r + j) (ints .u32 f) (ints .u32 fun _ => 0)))) (fun x _ _ => 8 - (intOf x).toNat)
      case atStart => exact ⟨0, by omega, rfl, by rw [← HQ0.out]; rfl, hon, hbk⟩
      case round =>
        clear hon hbk
        obtain ⟨j, hj, rfl, rfl, hon, hbk⟩ := hrel
        by_cases hjl : j < 8
        · obtain ⟨p, ep⟩ : ∃ p : Nat, p = 8 * r + j := ⟨_, rfl⟩
          rw [← ep] at hbk
          simp only [← ep]
          have hp : p < 256 := by omega
          have cb : wr.cell? ⟨bs, r, none⟩ = some (.int .u8 (b60 f r)) := (HS0.out.only hne hon).2 r (by omega)
          have hbr : b60 f r = enc (nz f) 1 r := by unfold b60; rw [if_pos hl]
          have hbb := octet_bit (bitL (nz f) 1) (bitL_bd (nz f) 1) r j hjl
          have hob := octet_bd (bitL_bd (nz f) 1) r 8
          have hbt : bitL (nz f) 1 (8 * r + j) = nz f p := by
            rw [← ep]
            unfold bitL
            rw [Nat.div_one, show p % 1 = 0 by omega]
            unfold nz
            split <;> rfl
          rw [hbt] at hbb
          rw [hbr] at cb
          unfold enc at cb
          generalize octet (bitL (nz f) 1) r 8 = c at *
          obtain ⟨c1, c2⟩ := hob
          have c3 : c < 256 := c2
          have hva : bits .and .u8 (c / 2 ^ j) 1 = nz f p := by
            have h0 : 0 ≤ c / 2 ^ j := Int.ediv_nonneg c1 (Int.pow_nonneg (by decide))
            have h1 : c / 2 ^ j ≤ c := Int.ediv_le_self _ c1
            rw [and1u8 _ ⟨h0, by omega⟩, hbb]
          have hnz : nz f p = if f p = 0 then 0 else 1 := rfl
          have hrk : rk f (p + 1) = if f p = 0 then rk f p else rk f p + 1 := rfl
          have hb := HBIT.out p hp
          have hq1 : S / 2 ^ (rk f p + 1) = S / 2 ^ rk f p / 2 := by rw [Int.pow_succ, Int.ediv_ediv, if_neg (fun h => by have h0 := pow_pos' (rk f p); have h1 := h.1; omega), Int.sub_zero]
          have hqn : 0 ≤ S / 2 ^ rk f p := Int.ediv_nonneg hS.1 (by have := pow_pos' (rk f p); omega)
          have hql : S / 2 ^ rk f p ≤ S := Int.ediv_le_self _ hS.1
          obtain ⟨v, ev⟩ : ∃ v, S / 2 ^ rk f p = v := ⟨_, rfl⟩
          rw [ev] at hb hq1 hqn hql
          rw [ev]
          obtain ⟨v2, ev2⟩ : ∃ v2, v / 2 = v2 := ⟨_, rfl⟩
          rw [ev2] at hq1
          have hju : (j : Int) % 18446744073709551616 = (j : Int) := by omega
          have z8 : 8 * (r : Int) + (j : Int) = (p : Int) := by omega
          have zb : (p : Int) < 256 := by omega
          have w8 : IntKind.i64.wrap (8 * (r : Int)) = 8 * (r : Int) := by rw [IntKind.wrap_i64]; omega
          have wp : IntKind.i64.wrap (p : Int) = (p : Int) := by rw [IntKind.wrap_i64]; omega
          have trl : (r : Int) < 40 := by omega
          have hup : ∀ x, upto (p + 1) (ints .u32 f) (ints .u32 fun _ => 0) x = if x = p then .int .u32 (f p) else upto p (ints .u32 f) (ints .u32 fun _ => 0) x := fun x => by
            have h := congrFun (upto_set (j := p) (g := ints .u32 f) (f := ints .u32 fun _ => 0) (v := .int .u32 (f p)) rfl) x
            exact h.symm
          have vz : upto p (ints .u32 f) (ints .u32 fun _ => 0) p = .int .u32 0 := upto_at
          have HUP := Lib.hid hup
          have HVZ := Lib.hid vz
          have HRK := Lib.hid hrk
          have HQ1 := Lib.hid hq1
          have HEV := Lib.hid ev
          have HE := Lib.hid ep
          clear hup vz hrk hq1 ev ep hbb hbt hbr
          rcases HF.out p hp with h | h | h
          · rw [hnz, if_pos h] at hva
            have HH := Lib.hid h
            clear h hnz hb ev2
            go_wp2_with fail
            go_roundw
            case rel =>
              have h := HH.out
              have h8 : 8 * r + (j + 1) = p + 1 := by have := HE.out; omega
              refine ⟨j + 1, by omega, by go_num, ?_, hon, hbk.congr fun x _ => ?_⟩
              · rw [h8, HRK.out, if_pos h, HEV.out]
              · rw [h8, HUP.out x]
                by_cases hx : x = p
                · rw [if_pos hx, hx, HVZ.out, h]
                · rw [if_neg hx]
            case measure => simp [intOf]; omega

          · rw [hnz, if_neg (by omega)] at hva
            have hb1 : bits .and .u64 v 1 = 0 := by
              rw [and_u64 v 1 1 (by decide) (by decide)]
              have h2 := hb (by omega)
              rw [if_neg (by omega)] at h2
              exact h2
            have ng : IntKind.u64.wrap (-0) = 0 := by decide
            have ng2 : (-0 : Int) % 18446744073709551616 = 0 := by decide
            have ug : IntKind.u32.wrap 0 = 0 := by decide
            have ug2 : (0 : Int) % 4294967296 = 0 := by decide
            have ag : bits .and .u32 0 8380417 = 0 := by decide +kernel
            have xg : bits .xor .u32 1 0 = 1 := by decide +kernel
            have HH := Lib.hid h
            clear h hnz hb
            have mk1 : True := trivial
            go_wp2_with (clear mk1; refine wpList_storeI info32 (.tmp 83) (.const (.int .u32 1)) bd p .u32 1 hbk hp rfl rfl rfl rfl ?_; intro w2 o2 k2; simp only [Act.put])
            have on2 := hon.trans o2
            have ca : w2.cell? ⟨bd, p, none⟩ = some (.int .u32 1) := by
              have h := k2.cell hp
              rw [if_pos rfl] at h
              exact h
            go_still_tail 16, (by kernel_rfl)
            refine wpList_storeI info32 (.tmp 99) (.tmp 97) bd p .u32 1 k2.drew hp rfl rfl rfl rfl ?_
            intro w3 o3 k3
            have on3 := on2.drew.trans o3
            simp only [Act.put]
            go_wp2_with fail
            go_roundw
            case rel =>
              have h := HH.out
              have h8 : 8 * r + (j + 1) = p + 1 := by have := HE.out; omega
              refine ⟨j + 1, by omega, by go_num, ?_, on3, k3.congr fun x _ => ?_⟩
              · rw [h8, HRK.out, if_neg (by omega), HQ1.out]
              · rw [h8, HUP.out x, h]
                by_cases hx : x = p
                · rw [if_pos hx, if_pos hx]
                · simp only [if_neg hx]
            case measure => simp [intOf]; omega
          · rw [hnz, if_neg (by omega)] at hva
            have hb1 : bits .and .u64 v 1 = 1 := by
              rw [and_u64 v 1 1 (by decide) (by decide)]
              have h2 := hb (by omega)
              rw [if_pos h] at h2
              exact h2
            have ng : IntKind.u64.wrap (-1) = 18446744073709551615 := by decide
            have ng2 : (-1 : Int) % 18446744073709551616 = 18446744073709551615 := by decide
            have ug : IntKind.u32.wrap 18446744073709551615 = 4294967295 := by decide
            have ug2 : (18446744073709551615 : Int) % 4294967296 = 4294967295 := by decide
            have ag : bits .and .u32 4294967295 8380417 = 8380417 := by decide +kernel
            have xg : bits .xor .u32 1 8380417 = 8380416 := by decide +kernel
            have HH := Lib.hid h
            clear h hnz hb
            have mk1 : True := trivial
            go_wp2_with (clear mk1; refine wpList_storeI info32 (.tmp 83) (.const (.int .u32 1)) bd p .u32 1 hbk hp rfl rfl rfl rfl ?_; intro w2 o2 k2; simp only [Act.put])
            have on2 := hon.trans o2
            have ca : w2.cell? ⟨bd, p, none⟩ = some (.int .u32 1) := by
              have h := k2.cell hp
              rw [if_pos rfl] at h
              exact h
            go_still_tail 16, (by kernel_rfl)
            refine wpList_storeI info32 (.tmp 99) (.tmp 97) bd p .u32 8380416 k2.drew hp rfl rfl rfl rfl ?_
            intro w3 o3 k3
            have on3 := on2.drew.trans o3
            simp only [Act.put]
            go_wp2_with fail
            go_roundw
            case rel =>
              have h := HH.out
              have h8 : 8 * r + (j + 1) = p + 1 := by have := HE.out; omega
              refine ⟨j + 1, by omega, by go_num, ?_, on3, k3.congr fun x _ => ?_⟩
              · rw [h8, HRK.out, if_neg (by omega), HQ1.out]
              · rw [h8, HUP.out x, h]
                by_cases hx : x = p
                · rw [if_pos hx, if_pos hx]
                · simp only [if_neg hx]
            case measure => simp [intOf]; omega
        · have hj8 : j = 8 := by omega
          subst hj8
          go_wp2_with fail
          go_roundw
          case rel => exact ⟨r + 1, by omega, by go_num, rfl, hon, hbk⟩
          case measure => simp [intOf]; omega
    · have hr' : r = 32 := by omega
      subst hr'
      go_wp2_with fail
      go_ret
      exact ⟨rfl, hon, by rw [show 8 * 32 = 256 by omega, upto_all] at hbk; exact hbk⟩
end Go.Proofs.Ytcgliedglahphaa
