/- spec.Encode: numbers in d bits each, as bytes. -/
import Derived.Test.YtngmpnkhdjnhoaaProg
import Derived.Test.YtngmpnkhdjnhoaaBytes
import Derived.Test.YtngmpnkhdjnhoaaUpto
import Derived.Test.YtngmpnkhdjnhoaaEq
import Derived.Lib.Hide
namespace Go.Proofs.Ytngmpnkhdjnhoaa
open Go Go.Proofs Go.RowKit Go.Kd

theorem arrI : ArrT Try.prog 29 256 := ⟨⟨_, Try.underlying29⟩, by kernel_rfl⟩
theorem zeroI : (Try.prog.info? 29).map (fun i => (i.zero, i.size)) = some (some (.agg (cellsF 256 (ints .i64 fun _ => 0))), 256) := by rw [show cellsF 256 (ints .i64 fun _ => 0) = Array.replicate 256 (.int .i64 0) from (replicate_cellsF 256 _).symm]; kernel_rfl
theorem infoI : (Try.prog.info? 3).map (·.size) = some 1 := by kernel_rfl
theorem intI : IntArr Try.prog 29 3 256 .i64 := ⟨Try.underlying29, Try.underlying3, by kernel_rfl, Option.map_eq_some_iff.1 infoI, by kernel_rfl⟩
theorem infoB : (Try.prog.info? 5).map (fun i => (i.zero, i.size, i.bytes)) = some (some (.int .u8 0), 1, 1) := by kernel_rfl
theorem pow8 : ∀ r : Nat, r < 8 → (1 : Int) ≤ 2 ^ r ∧ (2 : Int) ^ r ≤ 128 := by decide
theorem and1 (x : Int) (h : 0 ≤ x ∧ x ≤ 4611686018427387904) : bits .and .i64 x 1 = x % 2 := by
  show IntKind.i64.wrap ((BitVec.ofInt 64 x &&& BitVec.ofInt 64 1).toNat : Int) = _
  have h2 : (BitVec.ofInt 64 1).toNat = 1 := by decide
  rw [BitVec.toNat_and, h2, Nat.and_one_is_mod, BitVec.toNat_ofInt, IntKind.wrap_i64]
  omega

set_option maxRecDepth 100000 in
set_option maxHeartbeats 1000000 in
theorem enc12_any (l : Nat → Int) (w : World) (hlb : ∀ i, i < 256 → 0 ≤ l i ∧ l i ≤ 4294967295) :
    Calls Try.prog 13 #[.agg (cellsF 256 (ints .i64 l)), .int .i64 12] w fun e w' => ∃ v, e = .returned v ∧ ∃ b, v = .slice (some ⟨b, 0, none⟩) 384 384 ∧ SlB w' b 384 (enc l 12) ∧ Ext w w' := by
  go_enter Try.func13, Try.ntmps13
  refine wp_region_then ?_
  refine wpList_boxA 29 (.tmp 0) _ rfl rfl rfl ?_
  simp only [Act.put, List.setIfInBounds_toArray, List.set]
  intro w1 bl hl x1 kl
  have X1 := Ext.trans (Ext.refl w) x1
  have z1 := x1.size
  have ll := kl.lt
  refine wpList_val (v := .slice none 0 0) rfl rfl ?_
  simp only [Act.put, List.setIfInBounds_toArray, List.set]
  refine wp_next (wp_region_then ?_)
  refine wpList_val (v := .int .i64 12) rfl rfl ?_
  simp only [Act.put, List.setIfInBounds_toArray, List.set]
  refine wpList_val (v := .int .i64 384) rfl rfl ?_
  simp only [Act.put, List.setIfInBounds_toArray, List.set]
  refine wpList_makeB Try.underlying25 infoB (.tmp 11) (.tmp 11) 384 (by omega) rfl rfl rfl rfl ?_
  simp only [Act.put, List.setIfInBounds_toArray, List.set]
  intro w2 bo ho x2 ko
  have X2 := Ext.trans X1 x2
  have z2 := x2.size
  replace kl := kl.ext x2
  have lo := ko.lt
  refine wpList_val (v := .slice (some ⟨bo, 0, none⟩) 384 384) rfl rfl ?_
  simp only [Act.put, List.setIfInBounds_toArray, List.set]
  refine wp_next (wp_seq (wp_region_then ?_))
  refine wpList_loadA arrI (.tmp 2) bl _ kl (size_cellsF _ _) rfl rfl rfl ?_
  simp only [Act.put, List.setIfInBounds_toArray, List.set]
  refine wpList_val (v := .int .i64 0) rfl rfl ?_
  simp only [Act.put, List.setIfInBounds_toArray, List.set]
  refine wp_next ?_
  have hix : ∀ (j : Nat), j < 256 → ∀ wz, (Instr.index 29 (.agg (cellsF 256 (ints .i64 l))) (.int .i64 (j : Int))).run Try.prog wz = .ok (.int .i64 (l j)) wz := fun j hj wz => run_index intI _ j hj
  have hw1 : w.heap.size ≤ bo := by omega
  have HX := Lib.hid X2
  have k0 : Blk w2 bo 5 (cellsF 384 (ints .u8 (encAt (bitL l 12) 0))) := ko.congr fun i _ => by show Value.int _ _ = Value.int _ _; rw [encAt_zero]
  clear ko X2
  go_wp2_with fail
  go_loopw [14] (fun i wr => ∃ j : Nat, j ≤ 256 ∧ i = .int .i64 j ∧ Only bo w2 wr ∧ Blk wr bo 5 (cellsF 384 (ints .u8 (encAt (bitL l 12) (j * 12))))) (fun i _ => 256 - (intOf i).toNat)
  case atStart => exact ⟨0, by omega, rfl, Only.refl _ _, k0⟩
  case round =>
    obtain ⟨j, hj, rfl, hon, hbk⟩ := hrel
    by_cases hjl : j < 256
    · have h1 := hix j hjl
      obtain ⟨q1, q2⟩ := hlb j hjl
      clear hix hlb k0
      go_wp2_with fail
      have hjz : decide ((j : Int) < 256) = true := decide_eq_true (by omega)
      rw [hjz]
      clear hjz
      go_loopw [8] (fun i wr => ∃ k : Nat, k ≤ 12 ∧ i = .int .i64 k ∧ Only bo w2 wr ∧ Blk wr bo 5 (cellsF 384 (ints .u8 (encAt (bitL l 12) (j * 12 + k))))) (fun i _ => 12 - (intOf i).toNat)
      case atStart => exact ⟨0, by omega, rfl, hon, hbk⟩
      case round =>
        clear hon hbk
        obtain ⟨k, hk, rfl, hon, hbk⟩ := hrel
        by_cases hkl : k < 12
        · have hm : j * 12 + k < 3072 := by omega
          have hq : (j * 12 + k) / 12 = j ∧ (j * 12 + k) % 12 = k := by omega
          obtain ⟨m, em⟩ : ∃ m : Nat, m = j * 12 + k := ⟨_, rfl⟩
          have hbit : bitL l 12 m = l j / 2 ^ k % 2 := by unfold bitL; rw [em, hq.1, hq.2]
          obtain ⟨t, et⟩ : ∃ t : Nat, t = m / 8 := ⟨_, rfl⟩
          obtain ⟨r, er⟩ : ∃ r : Nat, r = m % 8 := ⟨_, rfl⟩
          have hr8 : r < 8 := by omega
          obtain ⟨c1, c2⟩ := octet_bd (bitL_bd l 12) t r
          have ca0 : wr.cell? ⟨bo, t, none⟩ = some (.int .u8 (encAt (bitL l 12) m t)) := by rw [em]; exact hbk.cell (by omega)
          have hat : encAt (bitL l 12) m t = octet (bitL l 12) t r := by rw [et, er, encAt_here]
          rw [hat] at ca0
          have hst : ∀ x, encAt (bitL l 12) (m + 1) x = if x = t then octet (bitL l 12) t r + bitL l 12 m * 2 ^ r else encAt (bitL l 12) m x := by
            intro x; rw [encAt_step, ← et, ← er, hat]
          obtain ⟨v1, v2⟩ := bitL_bd l 12 m
          have hva : bits .and .i64 (l j / 2 ^ k) 1 = bitL l 12 m := by
            have h0 : 0 ≤ l j / 2 ^ k := Int.ediv_nonneg q1 (Int.pow_nonneg (by decide))
            have h1 : l j / 2 ^ k ≤ l j := Int.ediv_le_self _ q1
            rw [and1 _ ⟨h0, by omega⟩, hbit]
          clear hbit
          generalize octet (bitL l 12) t r = c at *
          generalize bitL l 12 m = v at *
          have hp : (1 : Int) ≤ 2 ^ r ∧ (2 : Int) ^ r ≤ 128 := pow8 r hr8
          have htl : t < 384 := by omega
          have htz : (t : Int) < 384 := by omega
          have hs2 : v * 2 ^ r = 0 ∨ v * 2 ^ r = 2 ^ r := by
            have h01 : v = 0 ∨ v = 1 := by omega
            rcases h01 with h | h <;> rw [h] <;> simp
          have hor : bits .or .u8 c (v * 2 ^ r) = c + v * 2 ^ r := or8 c _ r v c1 c2 (Int.mul_comm _ _) v1 (by omega)
          have hwv : IntKind.u8.wrap v = v := by rw [IntKind.wrap_u8]; omega
          have hsh : IntKind.u8.wrap (v * 2 ^ r) = v * 2 ^ r := by rw [IntKind.wrap_u8]; omega
          have htd : IntKind.i64.wrap (((j : Int) * 12 + k).tdiv 8) = (t : Int) := by rw [Int.tdiv_eq_ediv_of_nonneg (by omega), IntKind.wrap_i64]; omega
          have htm : ((j : Int) * 12 + k).tmod 8 = (r : Int) := by rw [Int.tmod_eq_emod_of_nonneg (by omega)]; omega
          have fp := hbk.frozen t
          have HS := Lib.hid hst
          have HM := Lib.hid em
          clear hst hat em et er hq
          go_wp2_with fail
          go_still_tail 18, (by kernel_rfl)
          go_wp2_with fail
          go_roundw
          case rel =>
            refine ⟨k + 1, by omega, by go_num, (hon.drew).setCell _, ?_⟩
            have h2 := Blk.setCell (hbk.drew) t (Value.int .u8 (c + v * 2 ^ r))
            rw [← HM.out] at h2
            rw [show j * 12 + (k + 1) = m + 1 by have := HM.out; omega]
            exact h2.congr fun x _ => by
              show (if x = t then _ else Value.int _ _) = Value.int _ _
              rw [HS.out x]
              split <;> rfl
          case measure => simp [intOf]; omega
        · have hk' : k = 12 := by omega
          subst hk'
          go_wp2_with fail
          go_roundw
          case rel => exact ⟨j + 1, by omega, by go_num, hon, by rw [show (j + 1) * 12 = j * 12 + 12 by omega]; exact hbk⟩
          case measure => simp [intOf]; omega
    · have hj' : j = 256 := by omega
      subst hj'
      clear hix hlb k0
      go_wp2_with fail
      go_ret
      refine ⟨_, rfl, bo, rfl, ?_, hon.ext HX.out hw1⟩
      exact (hbk.congr fun x hx => by show Value.int _ _ = Value.int _ _; rw [encAt_all (by omega)]; rfl).slB
set_option maxRecDepth 100000 in
set_option maxHeartbeats 1000000 in
theorem enc10_any (l : Nat → Int) (w : World) (hlb : ∀ i, i < 256 → 0 ≤ l i ∧ l i ≤ 4294967295) :
    Calls Try.prog 13 #[.agg (cellsF 256 (ints .i64 l)), .int .i64 10] w fun e w' => ∃ v, e = .returned v ∧ ∃ b, v = .slice (some ⟨b, 0, none⟩) 320 320 ∧ SlB w' b 320 (enc l 10) ∧ Ext w w' := by
  go_enter Try.func13, Try.ntmps13
  refine wp_region_then ?_
  refine wpList_boxA 29 (.tmp 0) _ rfl rfl rfl ?_
  simp only [Act.put, List.setIfInBounds_toArray, List.set]
  intro w1 bl hl x1 kl
  have X1 := Ext.trans (Ext.refl w) x1
  have z1 := x1.size
  have ll := kl.lt
  refine wpList_val (v := .slice none 0 0) rfl rfl ?_
  simp only [Act.put, List.setIfInBounds_toArray, List.set]
  refine wp_next (wp_region_then ?_)
  refine wpList_val (v := .int .i64 10) rfl rfl ?_
  simp only [Act.put, List.setIfInBounds_toArray, List.set]
  refine wpList_val (v := .int .i64 320) rfl rfl ?_
  simp only [Act.put, List.setIfInBounds_toArray, List.set]
  refine wpList_makeB Try.underlying25 infoB (.tmp 11) (.tmp 11) 320 (by omega) rfl rfl rfl rfl ?_
  simp only [Act.put, List.setIfInBounds_toArray, List.set]
  intro w2 bo ho x2 ko
  have X2 := Ext.trans X1 x2
  have z2 := x2.size
  replace kl := kl.ext x2
  have lo := ko.lt
  refine wpList_val (v := .slice (some ⟨bo, 0, none⟩) 320 320) rfl rfl ?_
  simp only [Act.put, List.setIfInBounds_toArray, List.set]
  refine wp_next (wp_seq (wp_region_then ?_))
  refine wpList_loadA arrI (.tmp 2) bl _ kl (size_cellsF _ _) rfl rfl rfl ?_
  simp only [Act.put, List.setIfInBounds_toArray, List.set]
  refine wpList_val (v := .int .i64 0) rfl rfl ?_
  simp only [Act.put, List.setIfInBounds_toArray, List.set]
  refine wp_next ?_
  have hix : ∀ (j : Nat), j < 256 → ∀ wz, (Instr.index 29 (.agg (cellsF 256 (ints .i64 l))) (.int .i64 (j : Int))).run Try.prog wz = .ok (.int .i64 (l j)) wz := fun j hj wz => run_index intI _ j hj
  have hw1 : w.heap.size ≤ bo := by omega
  have HX := Lib.hid X2
  have k0 : Blk w2 bo 5 (cellsF 320 (ints .u8 (encAt (bitL l 10) 0))) := ko.congr fun i _ => by show Value.int _ _ = Value.int _ _; rw [encAt_zero]
  clear ko X2
  go_wp2_with fail
  go_loopw [14] (fun i wr => ∃ j : Nat, j ≤ 256 ∧ i = .int .i64 j ∧ Only bo w2 wr ∧ Blk wr bo 5 (cellsF 320 (ints .u8 (encAt (bitL l 10) (j * 10))))) (fun i _ => 256 - (intOf i).toNat)
  case atStart => exact ⟨0, by omega, rfl, Only.refl _ _, k0⟩
  case round =>
    obtain ⟨j, hj, rfl, hon, hbk⟩ := hrel
    by_cases hjl : j < 256
    · have h1 := hix j hjl
      obtain ⟨q1, q2⟩ := hlb j hjl
      clear hix hlb k0
      go_wp2_with fail
      have hjz : decide ((j : Int) < 256) = true := decide_eq_true (by omega)
      rw [hjz]
      clear hjz
      go_loopw [8] (fun i wr => ∃ k : Nat, k ≤ 10 ∧ i = .int .i64 k ∧ Only bo w2 wr ∧ Blk wr bo 5 (cellsF 320 (ints .u8 (encAt (bitL l 10) (j * 10 + k))))) (fun i _ => 10 - (intOf i).toNat)
      case atStart => exact ⟨0, by omega, rfl, hon, hbk⟩
      case round =>
        clear hon hbk
        obtain ⟨k, hk, rfl, hon, hbk⟩ := hrel
        by_cases hkl : k < 10
        · have hm : j * 10 + k < 2560 := by omega
          have hq : (j * 10 + k) / 10 = j ∧ (j * 10 + k) % 10 = k := by omega
          obtain ⟨m, em⟩ : ∃ m : Nat, m = j * 10 + k := ⟨_, rfl⟩
          have hbit : bitL l 10 m = l j / 2 ^ k % 2 := by unfold bitL; rw [em, hq.1, hq.2]
          obtain ⟨t, et⟩ : ∃ t : Nat, t = m / 8 := ⟨_, rfl⟩
          obtain ⟨r, er⟩ : ∃ r : Nat, r = m % 8 := ⟨_, rfl⟩
          have hr8 : r < 8 := by omega
          obtain ⟨c1, c2⟩ := octet_bd (bitL_bd l 10) t r
          have ca0 : wr.cell? ⟨bo, t, none⟩ = some (.int .u8 (encAt (bitL l 10) m t)) := by rw [em]; exact hbk.cell (by omega)
          have hat : encAt (bitL l 10) m t = octet (bitL l 10) t r := by rw [et, er, encAt_here]
          rw [hat] at ca0
          have hst : ∀ x, encAt (bitL l 10) (m + 1) x = if x = t then octet (bitL l 10) t r + bitL l 10 m * 2 ^ r else encAt (bitL l 10) m x := by
            intro x; rw [encAt_step, ← et, ← er, hat]
          obtain ⟨v1, v2⟩ := bitL_bd l 10 m
          have hva : bits .and .i64 (l j / 2 ^ k) 1 = bitL l 10 m := by
            have h0 : 0 ≤ l j / 2 ^ k := Int.ediv_nonneg q1 (Int.pow_nonneg (by decide))
            have h1 : l j / 2 ^ k ≤ l j := Int.ediv_le_self _ q1
            rw [and1 _ ⟨h0, by omega⟩, hbit]
          clear hbit
          generalize octet (bitL l 10) t r = c at *
          generalize bitL l 10 m = v at *
          have hp : (1 : Int) ≤ 2 ^ r ∧ (2 : Int) ^ r ≤ 128 := pow8 r hr8
          have htl : t < 320 := by omega
          have htz : (t : Int) < 320 := by omega
          have hs2 : v * 2 ^ r = 0 ∨ v * 2 ^ r = 2 ^ r := by
            have h01 : v = 0 ∨ v = 1 := by omega
            rcases h01 with h | h <;> rw [h] <;> simp
          have hor : bits .or .u8 c (v * 2 ^ r) = c + v * 2 ^ r := or8 c _ r v c1 c2 (Int.mul_comm _ _) v1 (by omega)
          have hwv : IntKind.u8.wrap v = v := by rw [IntKind.wrap_u8]; omega
          have hsh : IntKind.u8.wrap (v * 2 ^ r) = v * 2 ^ r := by rw [IntKind.wrap_u8]; omega
          have htd : IntKind.i64.wrap (((j : Int) * 10 + k).tdiv 8) = (t : Int) := by rw [Int.tdiv_eq_ediv_of_nonneg (by omega), IntKind.wrap_i64]; omega
          have htm : ((j : Int) * 10 + k).tmod 8 = (r : Int) := by rw [Int.tmod_eq_emod_of_nonneg (by omega)]; omega
          have fp := hbk.frozen t
          have HS := Lib.hid hst
          have HM := Lib.hid em
          clear hst hat em et er hq
          go_wp2_with fail
          go_still_tail 18, (by kernel_rfl)
          go_wp2_with fail
          go_roundw
          case rel =>
            refine ⟨k + 1, by omega, by go_num, (hon.drew).setCell _, ?_⟩
            have h2 := Blk.setCell (hbk.drew) t (Value.int .u8 (c + v * 2 ^ r))
            rw [← HM.out] at h2
            rw [show j * 10 + (k + 1) = m + 1 by have := HM.out; omega]
            exact h2.congr fun x _ => by
              show (if x = t then _ else Value.int _ _) = Value.int _ _
              rw [HS.out x]
              split <;> rfl
          case measure => simp [intOf]; omega
        · have hk' : k = 10 := by omega
          subst hk'
          go_wp2_with fail
          go_roundw
          case rel => exact ⟨j + 1, by omega, by go_num, hon, by rw [show (j + 1) * 10 = j * 10 + 10 by omega]; exact hbk⟩
          case measure => simp [intOf]; omega
    · have hj' : j = 256 := by omega
      subst hj'
      clear hix hlb k0
      go_wp2_with fail
      go_ret
      refine ⟨_, rfl, bo, rfl, ?_, hon.ext HX.out hw1⟩
      exact (hbk.congr fun x hx => by show Value.int _ _ = Value.int _ _; rw [encAt_all (by omega)]; rfl).slB
set_option maxRecDepth 100000 in
set_option maxHeartbeats 1000000 in
theorem enc4_any (l : Nat → Int) (w : World) (hlb : ∀ i, i < 256 → 0 ≤ l i ∧ l i ≤ 4294967295) :
    Calls Try.prog 13 #[.agg (cellsF 256 (ints .i64 l)), .int .i64 4] w fun e w' => ∃ v, e = .returned v ∧ ∃ b, v = .slice (some ⟨b, 0, none⟩) 128 128 ∧ SlB w' b 128 (enc l 4) ∧ Ext w w' := by
  go_enter Try.func13, Try.ntmps13
  refine wp_region_then ?_
  refine wpList_boxA 29 (.tmp 0) _ rfl rfl rfl ?_
  simp only [Act.put, List.setIfInBounds_toArray, List.set]
  intro w1 bl hl x1 kl
  have X1 := Ext.trans (Ext.refl w) x1
  have z1 := x1.size
  have ll := kl.lt
  refine wpList_val (v := .slice none 0 0) rfl rfl ?_
  simp only [Act.put, List.setIfInBounds_toArray, List.set]
  refine wp_next (wp_region_then ?_)
  refine wpList_val (v := .int .i64 4) rfl rfl ?_
  simp only [Act.put, List.setIfInBounds_toArray, List.set]
  refine wpList_val (v := .int .i64 128) rfl rfl ?_
  simp only [Act.put, List.setIfInBounds_toArray, List.set]
  refine wpList_makeB Try.underlying25 infoB (.tmp 11) (.tmp 11) 128 (by omega) rfl rfl rfl rfl ?_
  simp only [Act.put, List.setIfInBounds_toArray, List.set]
  intro w2 bo ho x2 ko
  have X2 := Ext.trans X1 x2
  have z2 := x2.size
  replace kl := kl.ext x2
  have lo := ko.lt
  refine wpList_val (v := .slice (some ⟨bo, 0, none⟩) 128 128) rfl rfl ?_
  simp only [Act.put, List.setIfInBounds_toArray, List.set]
  refine wp_next (wp_seq (wp_region_then ?_))
  refine wpList_loadA arrI (.tmp 2) bl _ kl (size_cellsF _ _) rfl rfl rfl ?_
  simp only [Act.put, List.setIfInBounds_toArray, List.set]
  refine wpList_val (v := .int .i64 0) rfl rfl ?_
  simp only [Act.put, List.setIfInBounds_toArray, List.set]
  refine wp_next ?_
  have hix : ∀ (j : Nat), j < 256 → ∀ wz, (Instr.index 29 (.agg (cellsF 256 (ints .i64 l))) (.int .i64 (j : Int))).run Try.prog wz = .ok (.int .i64 (l j)) wz := fun j hj wz => run_index intI _ j hj
  have hw1 : w.heap.size ≤ bo := by omega
  have HX := Lib.hid X2
  have k0 : Blk w2 bo 5 (cellsF 128 (ints .u8 (encAt (bitL l 4) 0))) := ko.congr fun i _ => by show Value.int _ _ = Value.int _ _; rw [encAt_zero]
  clear ko X2
  go_wp2_with fail
  go_loopw [14] (fun i wr => ∃ j : Nat, j ≤ 256 ∧ i = .int .i64 j ∧ Only bo w2 wr ∧ Blk wr bo 5 (cellsF 128 (ints .u8 (encAt (bitL l 4) (j * 4))))) (fun i _ => 256 - (intOf i).toNat)
  case atStart => exact ⟨0, by omega, rfl, Only.refl _ _, k0⟩
  case round =>
    obtain ⟨j, hj, rfl, hon, hbk⟩ := hrel
    by_cases hjl : j < 256
    · have h1 := hix j hjl
      obtain ⟨q1, q2⟩ := hlb j hjl
      clear hix hlb k0
      go_wp2_with fail
      have hjz : decide ((j : Int) < 256) = true := decide_eq_true (by omega)
      rw [hjz]
      clear hjz
      go_loopw [8] (fun i wr => ∃ k : Nat, k ≤ 4 ∧ i = .int .i64 k ∧ Only bo w2 wr ∧ Blk wr bo 5 (cellsF 128 (ints .u8 (encAt (bitL l 4) (j * 4 + k))))) (fun i _ => 4 - (intOf i).toNat)
      case atStart => exact ⟨0, by omega, rfl, hon, hbk⟩
      case round =>
        clear hon hbk
        obtain ⟨k, hk, rfl, hon, hbk⟩ := hrel
        by_cases hkl : k < 4
        · have hm : j * 4 + k < 1024 := by omega
          have hq : (j * 4 + k) / 4 = j ∧ (j * 4 + k) % 4 = k := by omega
          obtain ⟨m, em⟩ : ∃ m : Nat, m = j * 4 + k := ⟨_, rfl⟩
          have hbit : bitL l 4 m = l j / 2 ^ k % 2 := by unfold bitL; rw [em, hq.1, hq.2]
          obtain ⟨t, et⟩ : ∃ t : Nat, t = m / 8 := ⟨_, rfl⟩
          obtain ⟨r, er⟩ : ∃ r : Nat, r = m % 8 := ⟨_, rfl⟩
          have hr8 : r < 8 := by omega
          obtain ⟨c1, c2⟩ := octet_bd (bitL_bd l 4) t r
          have ca0 : wr.cell? ⟨bo, t, none⟩ = some (.int .u8 (encAt (bitL l 4) m t)) := by rw [em]; exact hbk.cell (by omega)
          have hat : encAt (bitL l 4) m t = octet (bitL l 4) t r := by rw [et, er, encAt_here]
          rw [hat] at ca0
          have hst : ∀ x, encAt (bitL l 4) (m + 1) x = if x = t then octet (bitL l 4) t r + bitL l 4 m * 2 ^ r else encAt (bitL l 4) m x := by
            intro x; rw [encAt_step, ← et, ← er, hat]
          obtain ⟨v1, v2⟩ := bitL_bd l 4 m
          have hva : bits .and .i64 (l j / 2 ^ k) 1 = bitL l 4 m := by
            have h0 : 0 ≤ l j / 2 ^ k := Int.ediv_nonneg q1 (Int.pow_nonneg (by decide))
            have h1 : l j / 2 ^ k ≤ l j := Int.ediv_le_self _ q1
            rw [and1 _ ⟨h0, by omega⟩, hbit]
          clear hbit
          generalize octet (bitL l 4) t r = c at *
          generalize bitL l 4 m = v at *
          have hp : (1 : Int) ≤ 2 ^ r ∧ (2 : Int) ^ r ≤ 128 := pow8 r hr8
          have htl : t < 128 := by omega
          have htz : (t : Int) < 128 := by omega
          have hs2 : v * 2 ^ r = 0 ∨ v * 2 ^ r = 2 ^ r := by
            have h01 : v = 0 ∨ v = 1 := by omega
            rcases h01 with h | h <;> rw [h] <;> simp
          have hor : bits .or .u8 c (v * 2 ^ r) = c + v * 2 ^ r := or8 c _ r v c1 c2 (Int.mul_comm _ _) v1 (by omega)
          have hwv : IntKind.u8.wrap v = v := by rw [IntKind.wrap_u8]; omega
          have hsh : IntKind.u8.wrap (v * 2 ^ r) = v * 2 ^ r := by rw [IntKind.wrap_u8]; omega
          have htd : IntKind.i64.wrap (((j : Int) * 4 + k).tdiv 8) = (t : Int) := by rw [Int.tdiv_eq_ediv_of_nonneg (by omega), IntKind.wrap_i64]; omega
          have htm : ((j : Int) * 4 + k).tmod 8 = (r : Int) := by rw [Int.tmod_eq_emod_of_nonneg (by omega)]; omega
          have fp := hbk.frozen t
          have HS := Lib.hid hst
          have HM := Lib.hid em
          clear hst hat em et er hq
          go_wp2_with fail
          go_still_tail 18, (by kernel_rfl)
          go_wp2_with fail
          go_roundw
          case rel =>
            refine ⟨k + 1, by omega, by go_num, (hon.drew).setCell _, ?_⟩
            have h2 := Blk.setCell (hbk.drew) t (Value.int .u8 (c + v * 2 ^ r))
            rw [← HM.out] at h2
            rw [show j * 4 + (k + 1) = m + 1 by have := HM.out; omega]
            exact h2.congr fun x _ => by
              show (if x = t then _ else Value.int _ _) = Value.int _ _
              rw [HS.out x]
              split <;> rfl
          case measure => simp [intOf]; omega
        · have hk' : k = 4 := by omega
          subst hk'
          go_wp2_with fail
          go_roundw
          case rel => exact ⟨j + 1, by omega, by go_num, hon, by rw [show (j + 1) * 4 = j * 4 + 4 by omega]; exact hbk⟩
          case measure => simp [intOf]; omega
    · have hj' : j = 256 := by omega
      subst hj'
      clear hix hlb k0
      go_wp2_with fail
      go_ret
      refine ⟨_, rfl, bo, rfl, ?_, hon.ext HX.out hw1⟩
      exact (hbk.congr fun x hx => by show Value.int _ _ = Value.int _ _; rw [encAt_all (by omega)]; rfl).slB
set_option maxRecDepth 100000 in
set_option maxHeartbeats 1000000 in
theorem enc5_any (l : Nat → Int) (w : World) (hlb : ∀ i, i < 256 → 0 ≤ l i ∧ l i ≤ 4294967295) :
    Calls Try.prog 13 #[.agg (cellsF 256 (ints .i64 l)), .int .i64 5] w fun e w' => ∃ v, e = .returned v ∧ ∃ b, v = .slice (some ⟨b, 0, none⟩) 160 160 ∧ SlB w' b 160 (enc l 5) ∧ Ext w w' := by
  go_enter Try.func13, Try.ntmps13
  refine wp_region_then ?_
  refine wpList_boxA 29 (.tmp 0) _ rfl rfl rfl ?_
  simp only [Act.put, List.setIfInBounds_toArray, List.set]
  intro w1 bl hl x1 kl
  have X1 := Ext.trans (Ext.refl w) x1
  have z1 := x1.size
  have ll := kl.lt
  refine wpList_val (v := .slice none 0 0) rfl rfl ?_
  simp only [Act.put, List.setIfInBounds_toArray, List.set]
  refine wp_next (wp_region_then ?_)
  refine wpList_val (v := .int .i64 5) rfl rfl ?_
  simp only [Act.put, List.setIfInBounds_toArray, List.set]
  refine wpList_val (v := .int .i64 160) rfl rfl ?_
  simp only [Act.put, List.setIfInBounds_toArray, List.set]
  refine wpList_makeB Try.underlying25 infoB (.tmp 11) (.tmp 11) 160 (by omega) rfl rfl rfl rfl ?_
  simp only [Act.put, List.setIfInBounds_toArray, List.set]
  intro w2 bo ho x2 ko
  have X2 := Ext.trans X1 x2
  have z2 := x2.size
  replace kl := kl.ext x2
  have lo := ko.lt
  refine wpList_val (v := .slice (some ⟨bo, 0, none⟩) 160 160) rfl rfl ?_
  simp only [Act.put, List.setIfInBounds_toArray, List.set]
  refine wp_next (wp_seq (wp_region_then ?_))
  refine wpList_loadA arrI (.tmp 2) bl _ kl (size_cellsF _ _) rfl rfl rfl ?_
  simp only [Act.put, List.setIfInBounds_toArray, List.set]
  refine wpList_val (v := .int .i64 0) rfl rfl ?_
  simp only [Act.put, List.setIfInBounds_toArray, List.set]
  refine wp_next ?_
  have hix : ∀ (j : Nat), j < 256 → ∀ wz, (Instr.index 29 (.agg (cellsF 256 (ints .i64 l))) (.int .i64 (j : Int))).run Try.prog wz = .ok (.int .i64 (l j)) wz := fun j hj wz => run_index intI _ j hj
  have hw1 : w.heap.size ≤ bo := by omega
  have HX := Lib.hid X2
  have k0 : Blk w2 bo 5 (cellsF 160 (ints .u8 (encAt (bitL l 5) 0))) := ko.congr fun i _ => by show Value.int _ _ = Value.int _ _; rw [encAt_zero]
  clear ko X2
  go_wp2_with fail
  go_loopw [14] (fun i wr => ∃ j : Nat, j ≤ 256 ∧ i = .int .i64 j ∧ Only bo w2 wr ∧ Blk wr bo 5 (cellsF 160 (ints .u8 (encAt (bitL l 5) (j * 5))))) (fun i _ => 256 - (intOf i).toNat)
  case atStart => exact ⟨0, by omega, rfl, Only.refl _ _, k0⟩
  case round =>
    obtain ⟨j, hj, rfl, hon, hbk⟩ := hrel
    by_cases hjl : j < 256
    · have h1 := hix j hjl
      obtain ⟨q1, q2⟩ := hlb j hjl
      clear hix hlb k0
      go_wp2_with fail
      have hjz : decide ((j : Int) < 256) = true := decide_eq_true (by omega)
      rw [hjz]
      clear hjz
      go_loopw [8] (fun i wr => ∃ k : Nat, k ≤ 5 ∧ i = .int .i64 k ∧ Only bo w2 wr ∧ Blk wr bo 5 (cellsF 160 (ints .u8 (encAt (bitL l 5) (j * 5 + k))))) (fun i _ => 5 - (intOf i).toNat)
      case atStart => exact ⟨0, by omega, rfl, hon, hbk⟩
      case round =>
        clear hon hbk
        obtain ⟨k, hk, rfl, hon, hbk⟩ := hrel
        by_cases hkl : k < 5
        · have hm : j * 5 + k < 1280 := by omega
          have hq : (j * 5 + k) / 5 = j ∧ (j * 5 + k) % 5 = k := by omega
          obtain ⟨m, em⟩ : ∃ m : Nat, m = j * 5 + k := ⟨_, rfl⟩
          have hbit : bitL l 5 m = l j / 2 ^ k % 2 := by unfold bitL; rw [em, hq.1, hq.2]
          obtain ⟨t, et⟩ : ∃ t : Nat, t = m / 8 := ⟨_, rfl⟩
          obtain ⟨r, er⟩ : ∃ r : Nat, r = m % 8 := ⟨_, rfl⟩
          have hr8 : r < 8 := by omega
          obtain ⟨c1, c2⟩ := octet_bd (bitL_bd l 5) t r
          have ca0 : wr.cell? ⟨bo, t, none⟩ = some (.int .u8 (encAt (bitL l 5) m t)) := by rw [em]; exact hbk.cell (by omega)
          have hat : encAt (bitL l 5) m t = octet (bitL l 5) t r := by rw [et, er, encAt_here]
          rw [hat] at ca0
          have hst : ∀ x, encAt (bitL l 5) (m + 1) x = if x = t then octet (bitL l 5) t r + bitL l 5 m * 2 ^ r else encAt (bitL l 5) m x := by
            intro x; rw [encAt_step, ← et, ← er, hat]
          obtain ⟨v1, v2⟩ := bitL_bd l 5 m
          have hva : bits .and .i64 (l j / 2 ^ k) 1 = bitL l 5 m := by
            have h0 : 0 ≤ l j / 2 ^ k := Int.ediv_nonneg q1 (Int.pow_nonneg (by decide))
            have h1 : l j / 2 ^ k ≤ l j := Int.ediv_le_self _ q1
            rw [and1 _ ⟨h0, by omega⟩, hbit]
          clear hbit
          generalize octet (bitL l 5) t r = c at *
          generalize bitL l 5 m = v at *
          have hp : (1 : Int) ≤ 2 ^ r ∧ (2 : Int) ^ r ≤ 128 := pow8 r hr8
          have htl : t < 160 := by omega
          have htz : (t : Int) < 160 := by omega
          have hs2 : v * 2 ^ r = 0 ∨ v * 2 ^ r = 2 ^ r := by
            have h01 : v = 0 ∨ v = 1 := by omega
            rcases h01 with h | h <;> rw [h] <;> simp
          have hor : bits .or .u8 c (v * 2 ^ r) = c + v * 2 ^ r := or8 c _ r v c1 c2 (Int.mul_comm _ _) v1 (by omega)
          have hwv : IntKind.u8.wrap v = v := by rw [IntKind.wrap_u8]; omega
          have hsh : IntKind.u8.wrap (v * 2 ^ r) = v * 2 ^ r := by rw [IntKind.wrap_u8]; omega
          have htd : IntKind.i64.wrap (((j : Int) * 5 + k).tdiv 8) = (t : Int) := by rw [Int.tdiv_eq_ediv_of_nonneg (by omega), IntKind.wrap_i64]; omega
          have htm : ((j : Int) * 5 + k).tmod 8 = (r : Int) := by rw [Int.tmod_eq_emod_of_nonneg (by omega)]; omega
          have fp := hbk.frozen t
          have HS := Lib.hid hst
          have HM := Lib.hid em
          clear hst hat em et er hq
          go_wp2_with fail
          go_still_tail 18, (by kernel_rfl)
          go_wp2_with fail
          go_roundw
          case rel =>
            refine ⟨k + 1, by omega, by go_num, (hon.drew).setCell _, ?_⟩
            have h2 := Blk.setCell (hbk.drew) t (Value.int .u8 (c + v * 2 ^ r))
            rw [← HM.out] at h2
            rw [show j * 5 + (k + 1) = m + 1 by have := HM.out; omega]
            exact h2.congr fun x _ => by
              show (if x = t then _ else Value.int _ _) = Value.int _ _
              rw [HS.out x]
              split <;> rfl
          case measure => simp [intOf]; omega
        · have hk' : k = 5 := by omega
          subst hk'
          go_wp2_with fail
          go_roundw
          case rel => exact ⟨j + 1, by omega, by go_num, hon, by rw [show (j + 1) * 5 = j * 5 + 5 by omega]; exact hbk⟩
          case measure => simp [intOf]; omega
    · have hj' : j = 256 := by omega
      subst hj'
      clear hix hlb k0
      go_wp2_with fail
      go_ret
      refine ⟨_, rfl, bo, rfl, ?_, hon.ext HX.out hw1⟩
      exact (hbk.congr fun x hx => by show Value.int _ _ = Value.int _ _; rw [encAt_all (by omega)]; rfl).slB
set_option maxRecDepth 100000 in
set_option maxHeartbeats 1000000 in
theorem enc11_any (l : Nat → Int) (w : World) (hlb : ∀ i, i < 256 → 0 ≤ l i ∧ l i ≤ 4294967295) :
    Calls Try.prog 13 #[.agg (cellsF 256 (ints .i64 l)), .int .i64 11] w fun e w' => ∃ v, e = .returned v ∧ ∃ b, v = .slice (some ⟨b, 0, none⟩) 352 352 ∧ SlB w' b 352 (enc l 11) ∧ Ext w w' := by
  go_enter Try.func13, Try.ntmps13
  refine wp_region_then ?_
  refine wpList_boxA 29 (.tmp 0) _ rfl rfl rfl ?_
  simp only [Act.put, List.setIfInBounds_toArray, List.set]
  intro w1 bl hl x1 kl
  have X1 := Ext.trans (Ext.refl w) x1
  have z1 := x1.size
  have ll := kl.lt
  refine wpList_val (v := .slice none 0 0) rfl rfl ?_
  simp only [Act.put, List.setIfInBounds_toArray, List.set]
  refine wp_next (wp_region_then ?_)
  refine wpList_val (v := .int .i64 11) rfl rfl ?_
  simp only [Act.put, List.setIfInBounds_toArray, List.set]
  refine wpList_val (v := .int .i64 352) rfl rfl ?_
  simp only [Act.put, List.setIfInBounds_toArray, List.set]
  refine wpList_makeB Try.underlying25 infoB (.tmp 11) (.tmp 11) 352 (by omega) rfl rfl rfl rfl ?_
  simp only [Act.put, List.setIfInBounds_toArray, List.set]
  intro w2 bo ho x2 ko
  have X2 := Ext.trans X1 x2
  have z2 := x2.size
  replace kl := kl.ext x2
  have lo := ko.lt
  refine wpList_val (v := .slice (some ⟨bo, 0, none⟩) 352 352) rfl rfl ?_
  simp only [Act.put, List.setIfInBounds_toArray, List.set]
  refine wp_next (wp_seq (wp_region_then ?_))
  refine wpList_loadA arrI (.tmp 2) bl _ kl (size_cellsF _ _) rfl rfl rfl ?_
  simp only [Act.put, List.setIfInBounds_toArray, List.set]
  refine wpList_val (v := .int .i64 0) rfl rfl ?_
  simp only [Act.put, List.setIfInBounds_toArray, List.set]
  refine wp_next ?_
  have hix : ∀ (j : Nat), j < 256 → ∀ wz, (Instr.index 29 (.agg (cellsF 256 (ints .i64 l))) (.int .i64 (j : Int))).run Try.prog wz = .ok (.int .i64 (l j)) wz := fun j hj wz => run_index intI _ j hj
  have hw1 : w.heap.size ≤ bo := by omega
  have HX := Lib.hid X2
  have k0 : Blk w2 bo 5 (cellsF 352 (ints .u8 (encAt (bitL l 11) 0))) := ko.congr fun i _ => by show Value.int _ _ = Value.int _ _; rw [encAt_zero]
  clear ko X2
  go_wp2_with fail
  go_loopw [14] (fun i wr => ∃ j : Nat, j ≤ 256 ∧ i = .int .i64 j ∧ Only bo w2 wr ∧ Blk wr bo 5 (cellsF 352 (ints .u8 (encAt (bitL l 11) (j * 11))))) (fun i _ => 256 - (intOf i).toNat)
  case atStart => exact ⟨0, by omega, rfl, Only.refl _ _, k0⟩
  case round =>
    obtain ⟨j, hj, rfl, hon, hbk⟩ := hrel
    by_cases hjl : j < 256
    · have h1 := hix j hjl
      obtain ⟨q1, q2⟩ := hlb j hjl
      clear hix hlb k0
      go_wp2_with fail
      have hjz : decide ((j : Int) < 256) = true := decide_eq_true (by omega)
      rw [hjz]
      clear hjz
      go_loopw [8] (fun i wr => ∃ k : Nat, k ≤ 11 ∧ i = .int .i64 k ∧ Only bo w2 wr ∧ Blk wr bo 5 (cellsF 352 (ints .u8 (encAt (bitL l 11) (j * 11 + k))))) (fun i _ => 11 - (intOf i).toNat)
      case atStart => exact ⟨0, by omega, rfl, hon, hbk⟩
      case round =>
        clear hon hbk
        obtain ⟨k, hk, rfl, hon, hbk⟩ := hrel
        by_cases hkl : k < 11
        · have hm : j * 11 + k < 2816 := by omega
          have hq : (j * 11 + k) / 11 = j ∧ (j * 11 + k) % 11 = k := by omega
          obtain ⟨m, em⟩ : ∃ m : Nat, m = j * 11 + k := ⟨_, rfl⟩
          have hbit : bitL l 11 m = l j / 2 ^ k % 2 := by unfold bitL; rw [em, hq.1, hq.2]
          obtain ⟨t, et⟩ : ∃ t : Nat, t = m / 8 := ⟨_, rfl⟩
          obtain ⟨r, er⟩ : ∃ r : Nat, r = m % 8 := ⟨_, rfl⟩
          have hr8 : r < 8 := by omega
          obtain ⟨c1, c2⟩ := octet_bd (bitL_bd l 11) t r
          have ca0 : wr.cell? ⟨bo, t, none⟩ = some (.int .u8 (encAt (bitL l 11) m t)) := by rw [em]; exact hbk.cell (by omega)
          have hat : encAt (bitL l 11) m t = octet (bitL l 11) t r := by rw [et, er, encAt_here]
          rw [hat] at ca0
          have hst : ∀ x, encAt (bitL l 11) (m + 1) x = if x = t then octet (bitL l 11) t r + bitL l 11 m * 2 ^ r else encAt (bitL l 11) m x := by
            intro x; rw [encAt_step, ← et, ← er, hat]
          obtain ⟨v1, v2⟩ := bitL_bd l 11 m
          have hva : bits .and .i64 (l j / 2 ^ k) 1 = bitL l 11 m := by
            have h0 : 0 ≤ l j / 2 ^ k := Int.ediv_nonneg q1 (Int.pow_nonneg (by decide))
            have h1 : l j / 2 ^ k ≤ l j := Int.ediv_le_self _ q1
            rw [and1 _ ⟨h0, by omega⟩, hbit]
          clear hbit
          generalize octet (bitL l 11) t r = c at *
          generalize bitL l 11 m = v at *
          have hp : (1 : Int) ≤ 2 ^ r ∧ (2 : Int) ^ r ≤ 128 := pow8 r hr8
          have htl : t < 352 := by omega
          have htz : (t : Int) < 352 := by omega
          have hs2 : v * 2 ^ r = 0 ∨ v * 2 ^ r = 2 ^ r := by
            have h01 : v = 0 ∨ v = 1 := by omega
            rcases h01 with h | h <;> rw [h] <;> simp
          have hor : bits .or .u8 c (v * 2 ^ r) = c + v * 2 ^ r := or8 c _ r v c1 c2 (Int.mul_comm _ _) v1 (by omega)
          have hwv : IntKind.u8.wrap v = v := by rw [IntKind.wrap_u8]; omega
          have hsh : IntKind.u8.wrap (v * 2 ^ r) = v * 2 ^ r := by rw [IntKind.wrap_u8]; omega
          have htd : IntKind.i64.wrap (((j : Int) * 11 + k).tdiv 8) = (t : Int) := by rw [Int.tdiv_eq_ediv_of_nonneg (by omega), IntKind.wrap_i64]; omega
          have htm : ((j : Int) * 11 + k).tmod 8 = (r : Int) := by rw [Int.tmod_eq_emod_of_nonneg (by omega)]; omega
          have fp := hbk.frozen t
          have HS := Lib.hid hst
          have HM := Lib.hid em
          clear hst hat em et er hq
          go_wp2_with fail
          go_still_tail 18, (by kernel_rfl)
          go_wp2_with fail
          go_roundw
          case rel =>
            refine ⟨k + 1, by omega, by go_num, (hon.drew).setCell _, ?_⟩
            have h2 := Blk.setCell (hbk.drew) t (Value.int .u8 (c + v * 2 ^ r))
            rw [← HM.out] at h2
            rw [show j * 11 + (k + 1) = m + 1 by have := HM.out; omega]
            exact h2.congr fun x _ => by
              show (if x = t then _ else Value.int _ _) = Value.int _ _
              rw [HS.out x]
              split <;> rfl
          case measure => simp [intOf]; omega
        · have hk' : k = 11 := by omega
          subst hk'
          go_wp2_with fail
          go_roundw
          case rel => exact ⟨j + 1, by omega, by go_num, hon, by rw [show (j + 1) * 11 = j * 11 + 11 by omega]; exact hbk⟩
          case measure => simp [intOf]; omega
    · have hj' : j = 256 := by omega
      subst hj'
      clear hix hlb k0
      go_wp2_with fail
      go_ret
      refine ⟨_, rfl, bo, rfl, ?_, hon.ext HX.out hw1⟩
      exact (hbk.congr fun x hx => by show Value.int _ _ = Value.int _ _; rw [encAt_all (by omega)]; rfl).slB
set_option maxRecDepth 100000 in
set_option maxHeartbeats 1000000 in
theorem enc1_any (l : Nat → Int) (w : World) (hlb : ∀ i, i < 256 → 0 ≤ l i ∧ l i ≤ 4294967295) :
    Calls Try.prog 13 #[.agg (cellsF 256 (ints .i64 l)), .int .i64 1] w fun e w' => ∃ v, e = .returned v ∧ ∃ b, v = .slice (some ⟨b, 0, none⟩) 32 32 ∧ SlB w' b 32 (enc l 1) ∧ Ext w w' := by
  go_enter Try.func13, Try.ntmps13
  refine wp_region_then ?_
  refine wpList_boxA 29 (.tmp 0) _ rfl rfl rfl ?_
  simp only [Act.put, List.setIfInBounds_toArray, List.set]
  intro w1 bl hl x1 kl
  have X1 := Ext.trans (Ext.refl w) x1
  have z1 := x1.size
  have ll := kl.lt
  refine wpList_val (v := .slice none 0 0) rfl rfl ?_
  simp only [Act.put, List.setIfInBounds_toArray, List.set]
  refine wp_next (wp_region_then ?_)
  refine wpList_val (v := .int .i64 1) rfl rfl ?_
  simp only [Act.put, List.setIfInBounds_toArray, List.set]
  refine wpList_val (v := .int .i64 32) rfl rfl ?_
  simp only [Act.put, List.setIfInBounds_toArray, List.set]
  refine wpList_makeB Try.underlying25 infoB (.tmp 11) (.tmp 11) 32 (by omega) rfl rfl rfl rfl ?_
  simp only [Act.put, List.setIfInBounds_toArray, List.set]
  intro w2 bo ho x2 ko
  have X2 := Ext.trans X1 x2
  have z2 := x2.size
  replace kl := kl.ext x2
  have lo := ko.lt
  refine wpList_val (v := .slice (some ⟨bo, 0, none⟩) 32 32) rfl rfl ?_
  simp only [Act.put, List.setIfInBounds_toArray, List.set]
  refine wp_next (wp_seq (wp_region_then ?_))
  refine wpList_loadA arrI (.tmp 2) bl _ kl (size_cellsF _ _) rfl rfl rfl ?_
  simp only [Act.put, List.setIfInBounds_toArray, List.set]
  refine wpList_val (v := .int .i64 0) rfl rfl ?_
  simp only [Act.put, List.setIfInBounds_toArray, List.set]
  refine wp_next ?_
  have hix : ∀ (j : Nat), j < 256 → ∀ wz, (Instr.index 29 (.agg (cellsF 256 (ints .i64 l))) (.int .i64 (j : Int))).run Try.prog wz = .ok (.int .i64 (l j)) wz := fun j hj wz => run_index intI _ j hj
  have hw1 : w.heap.size ≤ bo := by omega
  have HX := Lib.hid X2
  have k0 : Blk w2 bo 5 (cellsF 32 (ints .u8 (encAt (bitL l 1) 0))) := ko.congr fun i _ => by show Value.int _ _ = Value.int _ _; rw [encAt_zero]
  clear ko X2
  go_wp2_with fail
  go_loopw [14] (fun i wr => ∃ j : Nat, j ≤ 256 ∧ i = .int .i64 j ∧ Only bo w2 wr ∧ Blk wr bo 5 (cellsF 32 (ints .u8 (encAt (bitL l 1) (j * 1))))) (fun i _ => 256 - (intOf i).toNat)
  case atStart => exact ⟨0, by omega, rfl, Only.refl _ _, k0⟩
  case round =>
    obtain ⟨j, hj, rfl, hon, hbk⟩ := hrel
    by_cases hjl : j < 256
    · have h1 := hix j hjl
      obtain ⟨q1, q2⟩ := hlb j hjl
      clear hix hlb k0
      go_wp2_with fail
      have hjz : decide ((j : Int) < 256) = true := decide_eq_true (by omega)
      rw [hjz]
      clear hjz
      go_loopw [8] (fun i wr => ∃ k : Nat, k ≤ 1 ∧ i = .int .i64 k ∧ Only bo w2 wr ∧ Blk wr bo 5 (cellsF 32 (ints .u8 (encAt (bitL l 1) (j * 1 + k))))) (fun i _ => 1 - (intOf i).toNat)
      case atStart => exact ⟨0, by omega, rfl, hon, hbk⟩
      case round =>
        clear hon hbk
        obtain ⟨k, hk, rfl, hon, hbk⟩ := hrel
        by_cases hkl : k < 1
        · have hm : j * 1 + k < 256 := by omega
          have hq : (j * 1 + k) / 1 = j ∧ (j * 1 + k) % 1 = k := by omega
          obtain ⟨m, em⟩ : ∃ m : Nat, m = j * 1 + k := ⟨_, rfl⟩
          have hbit : bitL l 1 m = l j / 2 ^ k % 2 := by unfold bitL; rw [em, hq.1, hq.2]
          obtain ⟨t, et⟩ : ∃ t : Nat, t = m / 8 := ⟨_, rfl⟩
          obtain ⟨r, er⟩ : ∃ r : Nat, r = m % 8 := ⟨_, rfl⟩
          have hr8 : r < 8 := by omega
          obtain ⟨c1, c2⟩ := octet_bd (bitL_bd l 1) t r
          have ca0 : wr.cell? ⟨bo, t, none⟩ = some (.int .u8 (encAt (bitL l 1) m t)) := by rw [em]; exact hbk.cell (by omega)
          have hat : encAt (bitL l 1) m t = octet (bitL l 1) t r := by rw [et, er, encAt_here]
          rw [hat] at ca0
          have hst : ∀ x, encAt (bitL l 1) (m + 1) x = if x = t then octet (bitL l 1) t r + bitL l 1 m * 2 ^ r else encAt (bitL l 1) m x := by
            intro x; rw [encAt_step, ← et, ← er, hat]
          obtain ⟨v1, v2⟩ := bitL_bd l 1 m
          have hva : bits .and .i64 (l j / 2 ^ k) 1 = bitL l 1 m := by
            have h0 : 0 ≤ l j / 2 ^ k := Int.ediv_nonneg q1 (Int.pow_nonneg (by decide))
            have h1 : l j / 2 ^ k ≤ l j := Int.ediv_le_self _ q1
            rw [and1 _ ⟨h0, by omega⟩, hbit]
          clear hbit
          generalize octet (bitL l 1) t r = c at *
          generalize bitL l 1 m = v at *
          have hp : (1 : Int) ≤ 2 ^ r ∧ (2 : Int) ^ r ≤ 128 := pow8 r hr8
          have htl : t < 32 := by omega
          have htz : (t : Int) < 32 := by omega
          have hs2 : v * 2 ^ r = 0 ∨ v * 2 ^ r = 2 ^ r := by
            have h01 : v = 0 ∨ v = 1 := by omega
            rcases h01 with h | h <;> rw [h] <;> simp
          have hor : bits .or .u8 c (v * 2 ^ r) = c + v * 2 ^ r := or8 c _ r v c1 c2 (Int.mul_comm _ _) v1 (by omega)
          have hwv : IntKind.u8.wrap v = v := by rw [IntKind.wrap_u8]; omega
          have hsh : IntKind.u8.wrap (v * 2 ^ r) = v * 2 ^ r := by rw [IntKind.wrap_u8]; omega
          have htd : IntKind.i64.wrap (((j : Int) + k).tdiv 8) = (t : Int) := by rw [Int.tdiv_eq_ediv_of_nonneg (by omega), IntKind.wrap_i64]; omega
          have htm : ((j : Int) + k).tmod 8 = (r : Int) := by rw [Int.tmod_eq_emod_of_nonneg (by omega)]; omega
          have fp := hbk.frozen t
          have HS := Lib.hid hst
          have HM := Lib.hid em
          clear hst hat em et er hq
          go_wp2_with fail
          go_still_tail 18, (by kernel_rfl)
          go_wp2_with fail
          go_roundw
          case rel =>
            refine ⟨k + 1, by omega, by go_num, (hon.drew).setCell _, ?_⟩
            have h2 := Blk.setCell (hbk.drew) t (Value.int .u8 (c + v * 2 ^ r))
            rw [← HM.out] at h2
            rw [show j * 1 + (k + 1) = m + 1 by have := HM.out; omega]
            exact h2.congr fun x _ => by
              show (if x = t then _ else Value.int _ _) = Value.int _ _
              rw [HS.out x]
              split <;> rfl
          case measure => simp [intOf]; omega
        · have hk' : k = 1 := by omega
          subst hk'
          go_wp2_with fail
          go_roundw
          case rel => exact ⟨j + 1, by omega, by go_num, hon, by rw [show (j + 1) * 1 = j * 1 + 1 by omega]; exact hbk⟩
          case measure => simp [intOf]; omega
    · have hj' : j = 256 := by omega
      subst hj'
      clear hix hlb k0
      go_wp2_with fail
      go_ret
      refine ⟨_, rfl, bo, rfl, ?_, hon.ext HX.out hw1⟩
      exact (hbk.congr fun x hx => by show Value.int _ _ = Value.int _ _; rw [encAt_all (by omega)]; rfl).slB
end Go.Proofs.Ytngmpnkhdjnhoaa
