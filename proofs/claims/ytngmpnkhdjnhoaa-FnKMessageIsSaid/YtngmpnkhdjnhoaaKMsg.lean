/- DecompressMessage, CompressMessageTo (Kyber). -/
import Derived.Test.YtngmpnkhdjnhoaaKTan
import Derived.Test.YtngmpnkhdjnhoaaEncK
import Derived.Test.YtngmpnkhdjnhoaaStore
import Derived.Test.YtngmpnkhdjnhoaaBits
import Derived.Lib.Hide
namespace Go.Proofs.Ytngmpnkhdjnhoaa
open Go Go.Proofs Go.RowKit Go.Kd
set_option linter.unusedSimpArgs false
set_option linter.unusedVariables false
theorem szB' : (Try.prog.info? 5).map (·.size) = some 1 := by kernel_rfl
theorem and1u8' (x : Int) (h : 0 ≤ x ∧ x ≤ 255) : bits .and .u8 x 1 = x % 2 := by
  show IntKind.u8.wrap ((BitVec.ofInt 8 x &&& BitVec.ofInt 8 1).toNat : Int) = _
  have h2 : (BitVec.ofInt 8 1).toNat = 1 := by decide
  rw [BitVec.toNat_and, h2, Nat.and_one_is_mod, BitVec.toNat_ofInt, IntKind.wrap_u8]
  omega
theorem xor0_i16 (x : Int) (h : -32768 ≤ x ∧ x ≤ 32767) : bits .xor .i16 0 x = x := by
  show IntKind.i16.wrap ((BitVec.ofInt 16 0 ^^^ BitVec.ofInt 16 x).toNat : Int) = _
  rw [show BitVec.ofInt 16 0 = 0#16 by decide, BitVec.zero_xor, BitVec.toNat_ofInt, wrap_i16']
  omega
theorem xor1_i16 (x : Int) (h : -32768 ≤ x ∧ x ≤ 32767) : bits .xor .i16 (-1) x = -x - 1 := by
  show IntKind.i16.wrap ((BitVec.ofInt 16 (-1) ^^^ BitVec.ofInt 16 x).toNat : Int) = _
  rw [show BitVec.ofInt 16 (-1) = BitVec.allOnes 16 by decide, BitVec.allOnes_xor, BitVec.toNat_not, BitVec.toNat_ofInt, wrap_i16']
  omega

set_option maxRecDepth 100000 in
set_option maxHeartbeats 2000000 in
theorem dmsg_any (bs bd cp : Nat) (w : World) (Td : TypeId) (f G Z : Nat → Int) (hs : RowK w bs 32 .u8 f) (hd : Blk w bd Td (cellsF 256 (ints .i16 Z))) (hne : bs ≠ bd) (hf : ∀ i, i < 32 → 0 ≤ f i ∧ f i ≤ 255)
    (hG : ∀ r j, r < 32 → j < 8 → G (8 * r + j) = f r / 2 ^ j % 2 * 1665) :
    Calls Try.prog 32 #[.pointer (some ⟨bd, 0, none⟩), .slice (some ⟨bs, 0, none⟩) 32 cp] w fun e w' => e = .returned (.tuple #[]) ∧ Only bd w w' ∧ Blk w' bd Td (cellsF 256 (ints .i16 G)) := by
  go_enter Try.func32, Try.ntmps32
  go_wp2_with fail
  go_loopw [4] (fun y wr => ∃ r : Nat, r ≤ 32 ∧ y = .int .i64 (r : Nat) ∧ Only bd w wr ∧ Blk wr bd Td (cellsF 256 (upto (8 * r) (ints .i16 G) (ints .i16 Z)))) (fun y _ => 32 - (intOf y).toNat)
  case atStart => exact ⟨0, by omega, rfl, Only.refl _ _, by rw [upto_zero]; exact hd⟩
  case round =>
    obtain ⟨r, hr, rfl, hon, hbk⟩ := hrel
    by_cases hl : r < 32
    · clear hd
      go_wp2_with fail
      have hjz : decide ((r : Int) < 32) = true := decide_eq_true (by omega)
      rw [hjz]
      clear hjz
      go_loopw [5] (fun y wr => ∃ j : Nat, j ≤ 8 ∧ y = .int .i64 (j : Nat) ∧ Only bd w wr ∧ Blk wr bd Td (cellsF 256 (upto (8 * r + j) (ints .i16 G) (ints .i16 Z)))) (fun y _ => 8 - (intOf y).toNat)
      case atStart => exact ⟨0, by omega, rfl, hon, hbk⟩
      case round =>
        clear hon hbk
        obtain ⟨j, hj, rfl, hon, hbk⟩ := hrel
        by_cases hjl : j < 8
        · obtain ⟨p, ep⟩ : ∃ p : Nat, p = 8 * r + j := ⟨_, rfl⟩
          have gg := hG r j hl hjl
          rw [← ep] at gg hbk
          obtain ⟨f1, f2⟩ := hf r hl
          have cb : wr.cell? ⟨bs, r, none⟩ = some (.int .u8 (f r)) := (hs.only hne hon).2 r hl
          have hnp : p < 256 := by omega
          have ca : wr.cell? ⟨bd, p, none⟩ = some (.int .i16 (Z p)) := by have h := hbk.cell hnp; rw [upto_at] at h; exact h
          have fp := hbk.frozen p
          obtain ⟨v, hv⟩ : ∃ v, f r / 2 ^ j % 2 = v := ⟨_, rfl⟩
          rw [hv] at gg
          have hva : bits .and .u8 (f r / 2 ^ j) 1 = v := by
            have h0 : 0 ≤ f r / 2 ^ j := Int.ediv_nonneg f1 (Int.pow_nonneg (by decide))
            have h1 : f r / 2 ^ j ≤ f r := Int.ediv_le_self _ f1
            rw [and1u8' _ ⟨h0, by omega⟩, hv]
          have v01 : v = 0 ∨ v = 1 := by omega
          have hw1 : IntKind.i16.wrap v = v := by rw [wrap_i16']; omega
          have hw2 : IntKind.i16.wrap (-v) = -v := by rw [wrap_i16']; omega
          obtain ⟨z, hz⟩ : ∃ z, bits .and .i16 (-v) 1665 = z := ⟨_, rfl⟩
          have hzv : z = v * 1665 := by
            rw [← hz]
            rcases v01 with h | h <;> rw [h] <;> decide
          have HF := Lib.hid (hzv.trans gg.symm)
          have hju : (j : Int) % 18446744073709551616 = (j : Int) := by omega
          have z8 : 8 * (r : Int) + (j : Int) = (p : Int) := by omega
          have HE := Lib.hid ep
          have HN := Lib.hid hne
          clear gg hv v01 hzv ep hs hf hG hne
          have zb : (p : Int) < 256 := by omega
          go_wp2_with fail
          go_roundw
          case rel =>
            refine ⟨j + 1, by omega, by go_num, hon.setCell _, ?_⟩
            have h1 := Blk.setCell hbk p (ints .i16 G p)
            rw [upto_set (by rfl)] at h1
            rw [show 8 * r + (j + 1) = p + 1 by have := HE.out; omega, HF.out]
            exact h1
          case measure => simp [intOf]; omega
        · have hj8 : j = 8 := by omega
          subst hj8
          clear hs hf hG
          go_wp2_with fail
          go_roundw
          case rel => exact ⟨r + 1, by omega, by go_num, hon, by rw [show 8 * (r + 1) = 8 * r + 8 by omega]; exact hbk⟩
          case measure => simp [intOf]; omega
    · have hr' : r = 32 := by omega
      subst hr'
      clear hs hf hG hd
      go_wp2_with fail
      go_end0
      exact ⟨rfl, hon, by rw [show 8 * 32 = 256 by omega, upto_all] at hbk; exact hbk⟩

set_option maxRecDepth 100000 in
set_option maxHeartbeats 2000000 in
theorem cmsg_any (bs bd : Nat) (w : World) (Td : TypeId) (f l : Nat → Int) (hs : RowK w bs 256 .i16 f) (hd : Blk w bd Td (cellsF 32 (ints .u8 fun _ => 0))) (hne : bs ≠ bd) (hf : ∀ i, i < 256 → 0 ≤ f i ∧ f i ≤ 3328)
    (hl0 : ∀ i, i < 256 → l i = (f i * 4 + 3329) / 6658 % 2) :
    Calls Try.prog 33 #[.pointer (some ⟨bs, 0, none⟩), .slice (some ⟨bd, 0, none⟩) 32 32] w fun e w' => e = .returned (.tuple #[]) ∧ Only bd w w' ∧ Blk w' bd Td (cellsF 32 (ints .u8 (enc l 1))) := by
  have k0 : Blk w bd Td (cellsF 32 (ints .u8 (encAt (bitL l 1) 0))) := hd.congr fun i _ => by show Value.int _ _ = Value.int _ _; rw [encAt_zero]
  clear hd
  go_enter Try.func33, Try.ntmps33
  go_wp2_with fail
  go_loopw [4] (fun y wr => ∃ r : Nat, r ≤ 32 ∧ y = .int .i64 (r : Nat) ∧ Only bd w wr ∧ Blk wr bd Td (cellsF 32 (ints .u8 (encAt (bitL l 1) (8 * r))))) (fun y _ => 32 - (intOf y).toNat)
  case atStart => exact ⟨0, by omega, rfl, Only.refl _ _, k0⟩
  case round =>
    obtain ⟨r, hr, rfl, hon, hbk⟩ := hrel
    by_cases hl : r < 32
    · clear k0
      have ca0 : wr.cell? ⟨bd, r, none⟩ = some (.int .u8 (encAt (bitL l 1) (8 * r) r)) := hbk.cell hl
      have fp0 := hbk.frozen r
      have on1 : Only bd w (wr.setCell ⟨bd, r, none⟩ (.int .u8 0)) := hon.setCell _
      have bk1 : Blk (wr.setCell ⟨bd, r, none⟩ (.int .u8 0)) bd Td (cellsF 32 (ints .u8 (encAt (bitL l 1) (8 * r)))) := (Blk.setCell hbk r (.int .u8 0)).congr fun x _ => by
        show (if x = r then _ else Value.int _ _) = Value.int _ _
        split
        · next h =>
          have e : encAt (bitL l 1) (8 * r) r = 0 := by unfold encAt; rw [show min 8 (8 * r - 8 * r) = 0 by omega]; rfl
          rw [h, e]
        · rfl
      go_wp2_with fail
      have hjz : decide ((r : Int) < 32) = true := decide_eq_true (by omega)
      rw [hjz]
      clear hjz ca0 fp0
      go_loopw [5] (fun y wr => ∃ j : Nat, j ≤ 8 ∧ y = .int .i64 (j : Nat) ∧ Only bd w wr ∧ Blk wr bd Td (cellsF 32 (ints .u8 (encAt (bitL l 1) (8 * r + j))))) (fun y _ => 8 - (intOf y).toNat)
      case atStart => exact ⟨0, by omega, rfl, on1, bk1⟩
      case round =>
        clear hon hbk on1 bk1
        obtain ⟨j, hj, rfl, hon, hbk⟩ := hrel
        by_cases hjl : j < 8
        · obtain ⟨p, ep⟩ : ∃ p : Nat, p = 8 * r + j := ⟨_, rfl⟩
          have hnp : p < 256 := by omega
          obtain ⟨f1, f2⟩ := hf p hnp
          have lp := hl0 p hnp
          have cb : wr.cell? ⟨bs, p, none⟩ = some (.int .i16 (f p)) := (hs.only hne hon).2 p hnp
          generalize f p = x at *
          obtain ⟨c1, c2⟩ := octet_bd (bitL_bd l 1) r j
          have ca0 : wr.cell? ⟨bd, r, none⟩ = some (.int .u8 (encAt (bitL l 1) p r)) := by rw [ep]; exact hbk.cell hl
          have hat : encAt (bitL l 1) p r = octet (bitL l 1) r j := by
            have h := encAt_here (bitL l 1) p
            rw [show p / 8 = r by omega, show p % 8 = j by omega] at h
            exact h
          rw [hat] at ca0
          have hst : ∀ x, encAt (bitL l 1) (p + 1) x = if x = r then octet (bitL l 1) r j + bitL l 1 p * 2 ^ j else encAt (bitL l 1) p x := by
            intro x
            rw [encAt_step, show p / 8 = r by omega, show p % 8 = j by omega, hat]
          have hbit : bitL l 1 p = l p % 2 := by unfold bitL; rw [Nat.div_one, show p % 1 = 0 by omega]; simp
          obtain ⟨v1, v2⟩ := bitL_bd l 1 p
          generalize octet (bitL l 1) r j = c at *
          generalize bitL l 1 p = v at *
          have y1 : IntKind.i16.wrap (1664 - x) = 1664 - x := by rw [wrap_i16']; omega
          obtain ⟨y, hy⟩ : ∃ y, 1664 - x = y := ⟨_, rfl⟩
          rw [hy] at y1
          obtain ⟨s, hsx⟩ : ∃ s, y / 32768 = s := ⟨_, rfl⟩
          obtain ⟨z, hz⟩ : ∃ z, bits .xor .i16 s y = z := ⟨_, rfl⟩
          have hzv : z = if 0 ≤ y then y else -y - 1 := by
            rw [← hz]
            by_cases h : 0 ≤ y
            · rw [if_pos h, show s = 0 by omega]; exact xor0_i16 y (by omega)
            · rw [if_neg h, show s = -1 by omega]; exact xor1_i16 y (by omega)
          obtain ⟨u, hu⟩ : ∃ u, z - 832 = u := ⟨_, rfl⟩
          have wu : IntKind.i16.wrap u = u := by rw [wrap_i16']; split at hzv <;> omega
          obtain ⟨t, ht⟩ : ∃ t, u / 32768 = t := ⟨_, rfl⟩
          obtain ⟨t2, ht2⟩ : ∃ t2, t % 256 = t2 := ⟨_, rfl⟩
          have hq : (x * 4 + 3329) / 6658 = 0 ∨ (x * 4 + 3329) / 6658 = 1 ∨ (x * 4 + 3329) / 6658 = 2 := by omega
          have htt : t = 0 ∨ t = -1 := by split at hzv <;> omega
          have hv2 : t2 % 2 = v := by
            rw [hbit, lp]
            split at hzv <;> rcases hq with h | h | h <;> rw [h] <;> rcases htt with h2 | h2 <;> omega
          have hva : bits .and .u8 t2 1 = v := by rw [and1u8' _ (by omega)]; exact hv2
          have hp : (1 : Int) ≤ 2 ^ j ∧ (2 : Int) ^ j ≤ 128 := pow8 j hjl
          have hs2 : v * 2 ^ j = 0 ∨ v * 2 ^ j = 2 ^ j := by
            have h01 : v = 0 ∨ v = 1 := by omega
            rcases h01 with h | h <;> rw [h] <;> simp
          have hor : bits .or .u8 c (v * 2 ^ j) = c + v * 2 ^ j := or8 c _ j v c1 c2 (Int.mul_comm _ _) v1 (by omega)
          have hsh : IntKind.u8.wrap (v * 2 ^ j) = v * 2 ^ j := by rw [IntKind.wrap_u8]; omega
          have hsh2 : (v * 2 ^ j) % 256 = v * 2 ^ j := by omega
          have hju : (j : Int) % 18446744073709551616 = (j : Int) := by omega
          have z8 : 8 * (r : Int) + (j : Int) = (p : Int) := by omega
          have zb : (p : Int) < 256 := by omega
          have fp := hbk.frozen r
          have HS := Lib.hid hst
          have HE := Lib.hid ep
          have HF := Lib.hid hf
          have HL := Lib.hid hl0
          clear hst hat ep hs hf hl0 hne hbit hs2 hzv lp hv2 hq htt f1 f2 hp v1 v2 c1 c2
          go_wp2_with fail
          go_roundw
          case rel =>
            refine ⟨j + 1, by omega, by go_num, hon.setCell _, ?_⟩
            have h2 := Blk.setCell hbk r (Value.int .u8 (c + v * 2 ^ j))
            rw [← HE.out] at h2
            rw [show 8 * r + (j + 1) = p + 1 by have := HE.out; omega]
            exact h2.congr fun x _ => by
              show (if x = r then _ else Value.int _ _) = Value.int _ _
              rw [HS.out x]
              split <;> rfl
          case measure => simp [intOf]; omega
        · have hj8 : j = 8 := by omega
          subst hj8
          clear hs hf hl0
          go_wp2_with fail
          go_roundw
          case rel => exact ⟨r + 1, by omega, by go_num, hon, by rw [show 8 * (r + 1) = 8 * r + 8 by omega]; exact hbk⟩
          case measure => simp [intOf]; omega
    · have hr' : r = 32 := by omega
      subst hr'
      clear hs hf hl0 k0
      go_wp2_with fail
      go_end0
      exact ⟨rfl, hon, hbk.congr fun x hx => by show Value.int _ _ = Value.int _ _; rw [encAt_all (by omega)]; rfl⟩

end Go.Proofs.Ytngmpnkhdjnhoaa
