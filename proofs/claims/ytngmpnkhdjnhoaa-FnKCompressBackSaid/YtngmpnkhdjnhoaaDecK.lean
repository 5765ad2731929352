/- spec.Decode: numbers of d bits each, out of bytes. -/
import Derived.Test.YtngmpnkhdjnhoaaEncK
import Derived.Test.YtngmpnkhdjnhoaaClone
import Derived.Lib.Hide
namespace Go.Proofs.Ytngmpnkhdjnhoaa
open Go Go.Proofs Go.RowKit Go.Kd
set_option linter.unusedSimpArgs false
set_option linter.unusedVariables false

/-- the first k bits of number i -/
def decS (f : Nat → Int) (d i : Nat) : Nat → Int
  | 0 => 0
  | k + 1 => decS f d i k + f ((i * d + k) / 8) / 2 ^ ((i * d + k) % 8) % 2 * 2 ^ k
/-- number i -/
def decN (f : Nat → Int) (d i : Nat) : Int := decS f d i d
theorem decS_bd (f : Nat → Int) (d i : Nat) : ∀ k, 0 ≤ decS f d i k ∧ decS f d i k < 2 ^ k
  | 0 => by simp [decS]
  | k + 1 => by
    have h := decS_bd f d i k
    have e : (2 : Int) ^ (k + 1) = 2 ^ k * 2 := by rw [Int.pow_succ]
    have hv : f ((i * d + k) / 8) / 2 ^ ((i * d + k) % 8) % 2 = 0 ∨ f ((i * d + k) / 8) / 2 ^ ((i * d + k) % 8) % 2 = 1 := by omega
    unfold decS
    rw [e]
    rcases hv with hv | hv <;> rw [hv] <;> omega
/-- the numbers up to i, and the first k bits of number i -/
def decA (f : Nat → Int) (d j k x : Nat) : Int := if x < j then decN f d x else if x = j then decS f d j k else 0
theorem decA_zero (f : Nat → Int) (d x : Nat) : decA f d 0 0 x = 0 := by
  unfold decA
  rw [if_neg (by omega)]
  split <;> rfl
theorem decA_step (f : Nat → Int) (d j k x : Nat) : decA f d j (k + 1) x = if x = j then decS f d j (k + 1) else decA f d j k x := by
  unfold decA
  by_cases h : x = j
  · rw [if_neg (by omega), if_pos h, if_pos h]
  · simp [h]
theorem decA_next (f : Nat → Int) (d j x : Nat) : decA f d (j + 1) 0 x = decA f d j d x := by
  unfold decA
  by_cases h : x < j
  · rw [if_pos h, if_pos (by omega)]
  · by_cases h2 : x = j
    · rw [if_pos (by omega), if_neg h, if_pos h2, h2]; rfl
    · rw [if_neg h, if_neg (by omega), if_neg h2]; split <;> rfl
theorem decA_all (f : Nat → Int) (d j k x : Nat) (h : x < j) : decA f d j k x = decN f d x := by unfold decA; rw [if_pos h]
theorem and1u8 (x : Int) (h : 0 ≤ x ∧ x ≤ 255) : bits .and .u8 x 1 = x % 2 := by
  show IntKind.u8.wrap ((BitVec.ofInt 8 x &&& BitVec.ofInt 8 1).toNat : Int) = _
  have h2 : (BitVec.ofInt 8 1).toNat = 1 := by decide
  rw [BitVec.toNat_and, h2, Nat.and_one_is_mod, BitVec.toNat_ofInt, IntKind.wrap_u8]
  omega
theorem pow12 : ∀ r : Nat, r < 12 → (1 : Int) ≤ 2 ^ r ∧ (2 : Int) ^ r ≤ 2048 := by decide

set_option maxRecDepth 100000 in
set_option maxHeartbeats 1000000 in
theorem dec12_any (b off c : Nat) (f : Nat → Int) (w : World) (hb : SlO w b off 384 f) (hfb : ∀ i, i < 384 → 0 ≤ f i ∧ f i ≤ 255) :
    Calls Try.prog 17 #[.slice (some ⟨b, off, none⟩) 384 c, .int .i64 12] w fun e w' => e = .returned (.agg (cellsF 256 (ints .i64 (decN f 12)))) ∧ Ext w w' := by
  have lb := hb.1
  go_enter Try.func17, Try.ntmps17
  refine wp_region_then ?_
  refine wpList_allocA 29 _ _ zeroI rfl rfl ?_
  simp only [Act.put, List.setIfInBounds_toArray, List.set]
  intro w1 br hr x1 kr
  have X1 := Ext.trans (Ext.refl w) x1
  have z1 := x1.size
  have lr := kr.lt
  refine wp_next (wp_region_then ?_)
  refine wpList_build0 intI _ zeroI rfl rfl ?_
  simp only [Act.put, List.setIfInBounds_toArray, List.set]
  refine wpList_allocA 29 _ _ zeroI rfl rfl ?_
  simp only [Act.put, List.setIfInBounds_toArray, List.set]
  intro w2 bo ho x2 ko
  have X2 := Ext.trans X1 x2
  have z2 := x2.size
  replace kr := kr.ext x2
  have lo := ko.lt
  refine wpList_storeA arrI (.tmp 5) (.tmp 9) bo _ (cellsF 256 (ints .i64 fun _ => 0)) ko (size_cellsF _ _) (size_cellsF _ _) (one_cellsF _ _ _) rfl rfl rfl rfl ?_
  simp only [Act.put]
  clear ko
  intro w3 o3 ko
  have X3 := o3.ext X2 (by omega)
  have z3 := o3.size
  replace kr := o3.blk (by omega) kr
  refine wp_next (wp_seq (wp_region_then ?_))
  refine wpList_val (v := .int .i64 0) rfl rfl ?_
  simp only [Act.put, List.setIfInBounds_toArray, List.set]
  refine wp_next ?_
  have hlt : br < bo := by omega
  have hw0 : w.heap.size ≤ bo := by omega
  have hw1 : w.heap.size ≤ br := by omega
  have HB := Lib.hid (hb.ext X3)
  have HX := Lib.hid X3
  have k0 : Blk w3 bo 29 (cellsF 256 (ints .i64 (decA f 12 0 0))) := ko.congr fun i _ => by show Value.int _ _ = Value.int _ _; rw [decA_zero]
  clear hb ko X1 X2 X3
  go_wp2_with fail
  go_loopw [10] (fun i wr => ∃ j : Nat, j ≤ 256 ∧ i = .int .i64 j ∧ Only bo w3 wr ∧ Blk wr bo 29 (cellsF 256 (ints .i64 (decA f 12 j 0)))) (fun i _ => 256 - (intOf i).toNat)
  case atStart => exact ⟨0, by omega, rfl, Only.refl _ _, k0⟩
  case round =>
    obtain ⟨j, hj, rfl, hon, hbk⟩ := hrel
    by_cases hjl : j < 256
    · clear k0
      go_wp2_with fail
      have hjz : decide ((j : Int) < 256) = true := decide_eq_true (by omega)
      rw [hjz]
      clear hjz
      go_loopw [7] (fun i wr => ∃ k : Nat, k ≤ 12 ∧ i = .int .i64 k ∧ Only bo w3 wr ∧ Blk wr bo 29 (cellsF 256 (ints .i64 (decA f 12 j k)))) (fun i _ => 12 - (intOf i).toNat)
      case atStart => exact ⟨0, by omega, rfl, hon, hbk⟩
      case round =>
        clear hon hbk
        obtain ⟨k, hk, rfl, hon, hbk⟩ := hrel
        by_cases hkl : k < 12
        · have hm : j * 12 + k < 3072 := by omega
          obtain ⟨m, em⟩ : ∃ m : Nat, m = j * 12 + k := ⟨_, rfl⟩
          obtain ⟨t, et⟩ : ∃ t : Nat, t = m / 8 := ⟨_, rfl⟩
          obtain ⟨r, er⟩ : ∃ r : Nat, r = m % 8 := ⟨_, rfl⟩
          have hr8 : r < 8 := by omega
          obtain ⟨c1, c2⟩ := decS_bd f 12 j k
          have hst : decS f 12 j (k + 1) = decS f 12 j k + f t / 2 ^ r % 2 * 2 ^ k := by rw [et, er, em]; rfl
          have ca0 : wr.cell? ⟨bo, j, none⟩ = some (.int .i64 (decS f 12 j k)) := by
            have h := hbk.cell hjl
            unfold ints decA at h
            rw [if_neg (by omega), if_pos rfl] at h
            exact h
          have htl : t < 384 := by omega
          have cb0 : wr.cell? ⟨b, off + t, none⟩ = some (.int .u8 (f t)) := by
            rw [← HB.out.2 t htl]
            simp only [World.cell?, hon.block b (by omega)]
          obtain ⟨f1, f2⟩ := hfb t htl
          have HST := Lib.hid hst
          clear hst
          have hp : (1 : Int) ≤ 2 ^ r ∧ (2 : Int) ^ r ≤ 128 := pow8 r hr8
          obtain ⟨v, ev⟩ : ∃ v : Int, v = f t / 2 ^ r % 2 := ⟨_, rfl⟩
          have hva : bits .and .u8 (f t / 2 ^ r) 1 = v := by
            have h0 : 0 ≤ f t / 2 ^ r := Int.ediv_nonneg f1 (Int.pow_nonneg (by decide))
            have h1 : f t / 2 ^ r ≤ f t := Int.ediv_le_self _ f1
            rw [and1u8 _ ⟨h0, by omega⟩, ev]
          have v1 : v = 0 ∨ v = 1 := by omega
          have HEV := Lib.hid ev
          clear ev
          have hq : (1 : Int) ≤ 2 ^ k ∧ (2 : Int) ^ k ≤ 2048 := pow12 k (by omega)
          have hs2 : v * 2 ^ k = 0 ∨ v * 2 ^ k = 2 ^ k := by rcases v1 with h | h <;> rw [h] <;> simp
          have hwv : IntKind.i64.wrap v = v := by rw [IntKind.wrap_i64]; omega
          have hsh : IntKind.i64.wrap (v * 2 ^ k) = v * 2 ^ k := by rw [IntKind.wrap_i64]; omega
          obtain ⟨c, ec⟩ : ∃ c : Int, c = decS f 12 j k := ⟨_, rfl⟩
          rw [← ec] at ca0 c1 c2
          obtain ⟨s, es⟩ : ∃ s : Int, s = c + v * 2 ^ k := ⟨_, rfl⟩
          have hsu : c + v * 2 ^ k = s := es.symm
          have hsw : IntKind.i64.wrap s = s := by rw [IntKind.wrap_i64]; omega
          have hfin : s = decS f 12 j (k + 1) := by rw [HST.out, ← HEV.out, es, ec]
          have HF := Lib.hid hfin
          clear hfin es ec v1 hs2
          have htz : (t : Int) < 384 := by omega
          have htd : IntKind.i64.wrap (((j : Int) * 12 + k).tdiv 8) = (t : Int) := by rw [Int.tdiv_eq_ediv_of_nonneg (by omega), IntKind.wrap_i64]; omega
          have htm : ((j : Int) * 12 + k).tmod 8 = (r : Int) := by rw [Int.tmod_eq_emod_of_nonneg (by omega)]; omega
          have fp := hbk.frozen j
          clear em et er hp hq
          go_wp2_with fail
          go_still_tail 18, (by kernel_rfl)
          go_wp2_with fail
          go_roundw
          case rel =>
            refine ⟨k + 1, by omega, by go_num, (hon.drew).setCell _, ?_⟩
            have h2 := Blk.setCell (hbk.drew) j (Value.int .i64 s)
            exact h2.congr fun x _ => by
              show (if x = j then _ else Value.int _ _) = Value.int _ _
              rw [decA_step, ← HF.out]
              split <;> rfl
          case measure => simp [intOf]; omega
        · have hk' : k = 12 := by omega
          subst hk'
          go_wp2_with fail
          go_roundw
          case rel => exact ⟨j + 1, by omega, by go_num, hon, hbk.congr fun x _ => by show Value.int _ _ = Value.int _ _; rw [decA_next]⟩
          case measure => simp [intOf]; omega
    · have hj' : j = 256 := by omega
      subst hj'
      have hbk2 : Blk wr bo 29 (cellsF 256 (ints .i64 (decN f 12))) := hbk.congr fun x hx => by show Value.int _ _ = Value.int _ _; rw [decA_all _ _ _ _ _ hx]
      have kr2 := hon.blk (by omega) kr
      have HO := Lib.hid hon
      clear k0 hbk hon
      go_wp2_with (first | (refine wpList_loadA arrI (.tmp 5) bo _ hbk2 (size_cellsF _ _) rfl rfl rfl ?_; simp only [Act.put, List.setIfInBounds_toArray, List.set]) | (refine wpList_storeA arrI (.tmp 4) (.tmp 42) br _ _ kr2 (size_cellsF _ _) (size_cellsF _ _) (one_cellsF _ _ _) rfl rfl rfl rfl ?_; simp only [Act.put]; intro wy oy ky))
      exact bodyPost_cellA arrI rfl br _ ky (size_cellsF _ _) rfl rfl ⟨rfl, oy.ext (HO.out.ext HX.out hw0) hw1⟩

set_option maxRecDepth 100000 in
set_option maxHeartbeats 1000000 in
theorem dec10_any (b off c : Nat) (f : Nat → Int) (w : World) (hb : SlO w b off 320 f) (hfb : ∀ i, i < 320 → 0 ≤ f i ∧ f i ≤ 255) :
    Calls Try.prog 17 #[.slice (some ⟨b, off, none⟩) 320 c, .int .i64 10] w fun e w' => e = .returned (.agg (cellsF 256 (ints .i64 (decN f 10)))) ∧ Ext w w' := by
  have lb := hb.1
  go_enter Try.func17, Try.ntmps17
  refine wp_region_then ?_
  refine wpList_allocA 29 _ _ zeroI rfl rfl ?_
  simp only [Act.put, List.setIfInBounds_toArray, List.set]
  intro w1 br hr x1 kr
  have X1 := Ext.trans (Ext.refl w) x1
  have z1 := x1.size
  have lr := kr.lt
  refine wp_next (wp_region_then ?_)
  refine wpList_build0 intI _ zeroI rfl rfl ?_
  simp only [Act.put, List.setIfInBounds_toArray, List.set]
  refine wpList_allocA 29 _ _ zeroI rfl rfl ?_
  simp only [Act.put, List.setIfInBounds_toArray, List.set]
  intro w2 bo ho x2 ko
  have X2 := Ext.trans X1 x2
  have z2 := x2.size
  replace kr := kr.ext x2
  have lo := ko.lt
  refine wpList_storeA arrI (.tmp 5) (.tmp 9) bo _ (cellsF 256 (ints .i64 fun _ => 0)) ko (size_cellsF _ _) (size_cellsF _ _) (one_cellsF _ _ _) rfl rfl rfl rfl ?_
  simp only [Act.put]
  clear ko
  intro w3 o3 ko
  have X3 := o3.ext X2 (by omega)
  have z3 := o3.size
  replace kr := o3.blk (by omega) kr
  refine wp_next (wp_seq (wp_region_then ?_))
  refine wpList_val (v := .int .i64 0) rfl rfl ?_
  simp only [Act.put, List.setIfInBounds_toArray, List.set]
  refine wp_next ?_
  have hlt : br < bo := by omega
  have hw0 : w.heap.size ≤ bo := by omega
  have hw1 : w.heap.size ≤ br := by omega
  have HB := Lib.hid (hb.ext X3)
  have HX := Lib.hid X3
  have k0 : Blk w3 bo 29 (cellsF 256 (ints .i64 (decA f 10 0 0))) := ko.congr fun i _ => by show Value.int _ _ = Value.int _ _; rw [decA_zero]
  clear hb ko X1 X2 X3
  go_wp2_with fail
  go_loopw [10] (fun i wr => ∃ j : Nat, j ≤ 256 ∧ i = .int .i64 j ∧ Only bo w3 wr ∧ Blk wr bo 29 (cellsF 256 (ints .i64 (decA f 10 j 0)))) (fun i _ => 256 - (intOf i).toNat)
  case atStart => exact ⟨0, by omega, rfl, Only.refl _ _, k0⟩
  case round =>
    obtain ⟨j, hj, rfl, hon, hbk⟩ := hrel
    by_cases hjl : j < 256
    · clear k0
      go_wp2_with fail
      have hjz : decide ((j : Int) < 256) = true := decide_eq_true (by omega)
      rw [hjz]
      clear hjz
      go_loopw [7] (fun i wr => ∃ k : Nat, k ≤ 10 ∧ i = .int .i64 k ∧ Only bo w3 wr ∧ Blk wr bo 29 (cellsF 256 (ints .i64 (decA f 10 j k)))) (fun i _ => 10 - (intOf i).toNat)
      case atStart => exact ⟨0, by omega, rfl, hon, hbk⟩
      case round =>
        clear hon hbk
        obtain ⟨k, hk, rfl, hon, hbk⟩ := hrel
        by_cases hkl : k < 10
        · have hm : j * 10 + k < 2560 := by omega
          obtain ⟨m, em⟩ : ∃ m : Nat, m = j * 10 + k := ⟨_, rfl⟩
          obtain ⟨t, et⟩ : ∃ t : Nat, t = m / 8 := ⟨_, rfl⟩
          obtain ⟨r, er⟩ : ∃ r : Nat, r = m % 8 := ⟨_, rfl⟩
          have hr8 : r < 8 := by omega
          obtain ⟨c1, c2⟩ := decS_bd f 10 j k
          have hst : decS f 10 j (k + 1) = decS f 10 j k + f t / 2 ^ r % 2 * 2 ^ k := by rw [et, er, em]; rfl
          have ca0 : wr.cell? ⟨bo, j, none⟩ = some (.int .i64 (decS f 10 j k)) := by
            have h := hbk.cell hjl
            unfold ints decA at h
            rw [if_neg (by omega), if_pos rfl] at h
            exact h
          have htl : t < 320 := by omega
          have cb0 : wr.cell? ⟨b, off + t, none⟩ = some (.int .u8 (f t)) := by
            rw [← HB.out.2 t htl]
            simp only [World.cell?, hon.block b (by omega)]
          obtain ⟨f1, f2⟩ := hfb t htl
          have HST := Lib.hid hst
          clear hst
          have hp : (1 : Int) ≤ 2 ^ r ∧ (2 : Int) ^ r ≤ 128 := pow8 r hr8
          obtain ⟨v, ev⟩ : ∃ v : Int, v = f t / 2 ^ r % 2 := ⟨_, rfl⟩
          have hva : bits .and .u8 (f t / 2 ^ r) 1 = v := by
            have h0 : 0 ≤ f t / 2 ^ r := Int.ediv_nonneg f1 (Int.pow_nonneg (by decide))
            have h1 : f t / 2 ^ r ≤ f t := Int.ediv_le_self _ f1
            rw [and1u8 _ ⟨h0, by omega⟩, ev]
          have v1 : v = 0 ∨ v = 1 := by omega
          have HEV := Lib.hid ev
          clear ev
          have hq : (1 : Int) ≤ 2 ^ k ∧ (2 : Int) ^ k ≤ 2048 := pow12 k (by omega)
          have hs2 : v * 2 ^ k = 0 ∨ v * 2 ^ k = 2 ^ k := by rcases v1 with h | h <;> rw [h] <;> simp
          have hwv : IntKind.i64.wrap v = v := by rw [IntKind.wrap_i64]; omega
          have hsh : IntKind.i64.wrap (v * 2 ^ k) = v * 2 ^ k := by rw [IntKind.wrap_i64]; omega
          obtain ⟨c, ec⟩ : ∃ c : Int, c = decS f 10 j k := ⟨_, rfl⟩
          rw [← ec] at ca0 c1 c2
          obtain ⟨s, es⟩ : ∃ s : Int, s = c + v * 2 ^ k := ⟨_, rfl⟩
          have hsu : c + v * 2 ^ k = s := es.symm
          have hsw : IntKind.i64.wrap s = s := by rw [IntKind.wrap_i64]; omega
          have hfin : s = decS f 10 j (k + 1) := by rw [HST.out, ← HEV.out, es, ec]
          have HF := Lib.hid hfin
          clear hfin es ec v1 hs2
          have htz : (t : Int) < 320 := by omega
          have htd : IntKind.i64.wrap (((j : Int) * 10 + k).tdiv 8) = (t : Int) := by rw [Int.tdiv_eq_ediv_of_nonneg (by omega), IntKind.wrap_i64]; omega
          have htm : ((j : Int) * 10 + k).tmod 8 = (r : Int) := by rw [Int.tmod_eq_emod_of_nonneg (by omega)]; omega
          have fp := hbk.frozen j
          clear em et er hp hq
          go_wp2_with fail
          go_still_tail 18, (by kernel_rfl)
          go_wp2_with fail
          go_roundw
          case rel =>
            refine ⟨k + 1, by omega, by go_num, (hon.drew).setCell _, ?_⟩
            have h2 := Blk.setCell (hbk.drew) j (Value.int .i64 s)
            exact h2.congr fun x _ => by
              show (if x = j then _ else Value.int _ _) = Value.int _ _
              rw [decA_step, ← HF.out]
              split <;> rfl
          case measure => simp [intOf]; omega
        · have hk' : k = 10 := by omega
          subst hk'
          go_wp2_with fail
          go_roundw
          case rel => exact ⟨j + 1, by omega, by go_num, hon, hbk.congr fun x _ => by show Value.int _ _ = Value.int _ _; rw [decA_next]⟩
          case measure => simp [intOf]; omega
    · have hj' : j = 256 := by omega
      subst hj'
      have hbk2 : Blk wr bo 29 (cellsF 256 (ints .i64 (decN f 10))) := hbk.congr fun x hx => by show Value.int _ _ = Value.int _ _; rw [decA_all _ _ _ _ _ hx]
      have kr2 := hon.blk (by omega) kr
      have HO := Lib.hid hon
      clear k0 hbk hon
      go_wp2_with (first | (refine wpList_loadA arrI (.tmp 5) bo _ hbk2 (size_cellsF _ _) rfl rfl rfl ?_; simp only [Act.put, List.setIfInBounds_toArray, List.set]) | (refine wpList_storeA arrI (.tmp 4) (.tmp 42) br _ _ kr2 (size_cellsF _ _) (size_cellsF _ _) (one_cellsF _ _ _) rfl rfl rfl rfl ?_; simp only [Act.put]; intro wy oy ky))
      exact bodyPost_cellA arrI rfl br _ ky (size_cellsF _ _) rfl rfl ⟨rfl, oy.ext (HO.out.ext HX.out hw0) hw1⟩

set_option maxRecDepth 100000 in
set_option maxHeartbeats 1000000 in
theorem dec4_any (b off c : Nat) (f : Nat → Int) (w : World) (hb : SlO w b off 128 f) (hfb : ∀ i, i < 128 → 0 ≤ f i ∧ f i ≤ 255) :
    Calls Try.prog 17 #[.slice (some ⟨b, off, none⟩) 128 c, .int .i64 4] w fun e w' => e = .returned (.agg (cellsF 256 (ints .i64 (decN f 4)))) ∧ Ext w w' := by
  have lb := hb.1
  go_enter Try.func17, Try.ntmps17
  refine wp_region_then ?_
  refine wpList_allocA 29 _ _ zeroI rfl rfl ?_
  simp only [Act.put, List.setIfInBounds_toArray, List.set]
  intro w1 br hr x1 kr
  have X1 := Ext.trans (Ext.refl w) x1
  have z1 := x1.size
  have lr := kr.lt
  refine wp_next (wp_region_then ?_)
  refine wpList_build0 intI _ zeroI rfl rfl ?_
  simp only [Act.put, List.setIfInBounds_toArray, List.set]
  refine wpList_allocA 29 _ _ zeroI rfl rfl ?_
  simp only [Act.put, List.setIfInBounds_toArray, List.set]
  intro w2 bo ho x2 ko
  have X2 := Ext.trans X1 x2
  have z2 := x2.size
  replace kr := kr.ext x2
  have lo := ko.lt
  refine wpList_storeA arrI (.tmp 5) (.tmp 9) bo _ (cellsF 256 (ints .i64 fun _ => 0)) ko (size_cellsF _ _) (size_cellsF _ _) (one_cellsF _ _ _) rfl rfl rfl rfl ?_
  simp only [Act.put]
  clear ko
  intro w3 o3 ko
  have X3 := o3.ext X2 (by omega)
  have z3 := o3.size
  replace kr := o3.blk (by omega) kr
  refine wp_next (wp_seq (wp_region_then ?_))
  refine wpList_val (v := .int .i64 0) rfl rfl ?_
  simp only [Act.put, List.setIfInBounds_toArray, List.set]
  refine wp_next ?_
  have hlt : br < bo := by omega
  have hw0 : w.heap.size ≤ bo := by omega
  have hw1 : w.heap.size ≤ br := by omega
  have HB := Lib.hid (hb.ext X3)
  have HX := Lib.hid X3
  have k0 : Blk w3 bo 29 (cellsF 256 (ints .i64 (decA f 4 0 0))) := ko.congr fun i _ => by show Value.int _ _ = Value.int _ _; rw [decA_zero]
  clear hb ko X1 X2 X3
  go_wp2_with fail
  go_loopw [10] (fun i wr => ∃ j : Nat, j ≤ 256 ∧ i = .int .i64 j ∧ Only bo w3 wr ∧ Blk wr bo 29 (cellsF 256 (ints .i64 (decA f 4 j 0)))) (fun i _ => 256 - (intOf i).toNat)
  case atStart => exact ⟨0, by omega, rfl, Only.refl _ _, k0⟩
  case round =>
    obtain ⟨j, hj, rfl, hon, hbk⟩ := hrel
    by_cases hjl : j < 256
    · clear k0
      go_wp2_with fail
      have hjz : decide ((j : Int) < 256) = true := decide_eq_true (by omega)
      rw [hjz]
      clear hjz
      go_loopw [7] (fun i wr => ∃ k : Nat, k ≤ 4 ∧ i = .int .i64 k ∧ Only bo w3 wr ∧ Blk wr bo 29 (cellsF 256 (ints .i64 (decA f 4 j k)))) (fun i _ => 4 - (intOf i).toNat)
      case atStart => exact ⟨0, by omega, rfl, hon, hbk⟩
      case round =>
        clear hon hbk
        obtain ⟨k, hk, rfl, hon, hbk⟩ := hrel
        by_cases hkl : k < 4
        · have hm : j * 4 + k < 1024 := by omega
          obtain ⟨m, em⟩ : ∃ m : Nat, m = j * 4 + k := ⟨_, rfl⟩
          obtain ⟨t, et⟩ : ∃ t : Nat, t = m / 8 := ⟨_, rfl⟩
          obtain ⟨r, er⟩ : ∃ r : Nat, r = m % 8 := ⟨_, rfl⟩
          have hr8 : r < 8 := by omega
          obtain ⟨c1, c2⟩ := decS_bd f 4 j k
          have hst : decS f 4 j (k + 1) = decS f 4 j k + f t / 2 ^ r % 2 * 2 ^ k := by rw [et, er, em]; rfl
          have ca0 : wr.cell? ⟨bo, j, none⟩ = some (.int .i64 (decS f 4 j k)) := by
            have h := hbk.cell hjl
            unfold ints decA at h
            rw [if_neg (by omega), if_pos rfl] at h
            exact h
          have htl : t < 128 := by omega
          have cb0 : wr.cell? ⟨b, off + t, none⟩ = some (.int .u8 (f t)) := by
            rw [← HB.out.2 t htl]
            simp only [World.cell?, hon.block b (by omega)]
          obtain ⟨f1, f2⟩ := hfb t htl
          have HST := Lib.hid hst
          clear hst
          have hp : (1 : Int) ≤ 2 ^ r ∧ (2 : Int) ^ r ≤ 128 := pow8 r hr8
          obtain ⟨v, ev⟩ : ∃ v : Int, v = f t / 2 ^ r % 2 := ⟨_, rfl⟩
          have hva : bits .and .u8 (f t / 2 ^ r) 1 = v := by
            have h0 : 0 ≤ f t / 2 ^ r := Int.ediv_nonneg f1 (Int.pow_nonneg (by decide))
            have h1 : f t / 2 ^ r ≤ f t := Int.ediv_le_self _ f1
            rw [and1u8 _ ⟨h0, by omega⟩, ev]
          have v1 : v = 0 ∨ v = 1 := by omega
          have HEV := Lib.hid ev
          clear ev
          have hq : (1 : Int) ≤ 2 ^ k ∧ (2 : Int) ^ k ≤ 2048 := pow12 k (by omega)
          have hs2 : v * 2 ^ k = 0 ∨ v * 2 ^ k = 2 ^ k := by rcases v1 with h | h <;> rw [h] <;> simp
          have hwv : IntKind.i64.wrap v = v := by rw [IntKind.wrap_i64]; omega
          have hsh : IntKind.i64.wrap (v * 2 ^ k) = v * 2 ^ k := by rw [IntKind.wrap_i64]; omega
          obtain ⟨c, ec⟩ : ∃ c : Int, c = decS f 4 j k := ⟨_, rfl⟩
          rw [← ec] at ca0 c1 c2
          obtain ⟨s, es⟩ : ∃ s : Int, s = c + v * 2 ^ k := ⟨_, rfl⟩
          have hsu : c + v * 2 ^ k = s := es.symm
          have hsw : IntKind.i64.wrap s = s := by rw [IntKind.wrap_i64]; omega
          have hfin : s = decS f 4 j (k + 1) := by rw [HST.out, ← HEV.out, es, ec]
          have HF := Lib.hid hfin
          clear hfin es ec v1 hs2
          have htz : (t : Int) < 128 := by omega
          have htd : IntKind.i64.wrap (((j : Int) * 4 + k).tdiv 8) = (t : Int) := by rw [Int.tdiv_eq_ediv_of_nonneg (by omega), IntKind.wrap_i64]; omega
          have htm : ((j : Int) * 4 + k).tmod 8 = (r : Int) := by rw [Int.tmod_eq_emod_of_nonneg (by omega)]; omega
          have fp := hbk.frozen j
          clear em et er hp hq
          go_wp2_with fail
          go_still_tail 18, (by kernel_rfl)
          go_wp2_with fail
          go_roundw
          case rel =>
            refine ⟨k + 1, by omega, by go_num, (hon.drew).setCell _, ?_⟩
            have h2 := Blk.setCell (hbk.drew) j (Value.int .i64 s)
            exact h2.congr fun x _ => by
              show (if x = j then _ else Value.int _ _) = Value.int _ _
              rw [decA_step, ← HF.out]
              split <;> rfl
          case measure => simp [intOf]; omega
        · have hk' : k = 4 := by omega
          subst hk'
          go_wp2_with fail
          go_roundw
          case rel => exact ⟨j + 1, by omega, by go_num, hon, hbk.congr fun x _ => by show Value.int _ _ = Value.int _ _; rw [decA_next]⟩
          case measure => simp [intOf]; omega
    · have hj' : j = 256 := by omega
      subst hj'
      have hbk2 : Blk wr bo 29 (cellsF 256 (ints .i64 (decN f 4))) := hbk.congr fun x hx => by show Value.int _ _ = Value.int _ _; rw [decA_all _ _ _ _ _ hx]
      have kr2 := hon.blk (by omega) kr
      have HO := Lib.hid hon
      clear k0 hbk hon
      go_wp2_with (first | (refine wpList_loadA arrI (.tmp 5) bo _ hbk2 (size_cellsF _ _) rfl rfl rfl ?_; simp only [Act.put, List.setIfInBounds_toArray, List.set]) | (refine wpList_storeA arrI (.tmp 4) (.tmp 42) br _ _ kr2 (size_cellsF _ _) (size_cellsF _ _) (one_cellsF _ _ _) rfl rfl rfl rfl ?_; simp only [Act.put]; intro wy oy ky))
      exact bodyPost_cellA arrI rfl br _ ky (size_cellsF _ _) rfl rfl ⟨rfl, oy.ext (HO.out.ext HX.out hw0) hw1⟩

set_option maxRecDepth 100000 in
set_option maxHeartbeats 1000000 in
theorem dec5_any (b off c : Nat) (f : Nat → Int) (w : World) (hb : SlO w b off 160 f) (hfb : ∀ i, i < 160 → 0 ≤ f i ∧ f i ≤ 255) :
    Calls Try.prog 17 #[.slice (some ⟨b, off, none⟩) 160 c, .int .i64 5] w fun e w' => e = .returned (.agg (cellsF 256 (ints .i64 (decN f 5)))) ∧ Ext w w' := by
  have lb := hb.1
  go_enter Try.func17, Try.ntmps17
  refine wp_region_then ?_
  refine wpList_allocA 29 _ _ zeroI rfl rfl ?_
  simp only [Act.put, List.setIfInBounds_toArray, List.set]
  intro w1 br hr x1 kr
  have X1 := Ext.trans (Ext.refl w) x1
  have z1 := x1.size
  have lr := kr.lt
  refine wp_next (wp_region_then ?_)
  refine wpList_build0 intI _ zeroI rfl rfl ?_
  simp only [Act.put, List.setIfInBounds_toArray, List.set]
  refine wpList_allocA 29 _ _ zeroI rfl rfl ?_
  simp only [Act.put, List.setIfInBounds_toArray, List.set]
  intro w2 bo ho x2 ko
  have X2 := Ext.trans X1 x2
  have z2 := x2.size
  replace kr := kr.ext x2
  have lo := ko.lt
  refine wpList_storeA arrI (.tmp 5) (.tmp 9) bo _ (cellsF 256 (ints .i64 fun _ => 0)) ko (size_cellsF _ _) (size_cellsF _ _) (one_cellsF _ _ _) rfl rfl rfl rfl ?_
  simp only [Act.put]
  clear ko
  intro w3 o3 ko
  have X3 := o3.ext X2 (by omega)
  have z3 := o3.size
  replace kr := o3.blk (by omega) kr
  refine wp_next (wp_seq (wp_region_then ?_))
  refine wpList_val (v := .int .i64 0) rfl rfl ?_
  simp only [Act.put, List.setIfInBounds_toArray, List.set]
  refine wp_next ?_
  have hlt : br < bo := by omega
  have hw0 : w.heap.size ≤ bo := by omega
  have hw1 : w.heap.size ≤ br := by omega
  have HB := Lib.hid (hb.ext X3)
  have HX := Lib.hid X3
  have k0 : Blk w3 bo 29 (cellsF 256 (ints .i64 (decA f 5 0 0))) := ko.congr fun i _ => by show Value.int _ _ = Value.int _ _; rw [decA_zero]
  clear hb ko X1 X2 X3
  go_wp2_with fail
  go_loopw [10] (fun i wr => ∃ j : Nat, j ≤ 256 ∧ i = .int .i64 j ∧ Only bo w3 wr ∧ Blk wr bo 29 (cellsF 256 (ints .i64 (decA f 5 j 0)))) (fun i _ => 256 - (intOf i).toNat)
  case atStart => exact ⟨0, by omega, rfl, Only.refl _ _, k0⟩
  case round =>
    obtain ⟨j, hj, rfl, hon, hbk⟩ := hrel
    by_cases hjl : j < 256
    · clear k0
      go_wp2_with fail
      have hjz : decide ((j : Int) < 256) = true := decide_eq_true (by omega)
      rw [hjz]
      clear hjz
      go_loopw [7] (fun i wr => ∃ k : Nat, k ≤ 5 ∧ i = .int .i64 k ∧ Only bo w3 wr ∧ Blk wr bo 29 (cellsF 256 (ints .i64 (decA f 5 j k)))) (fun i _ => 5 - (intOf i).toNat)
      case atStart => exact ⟨0, by omega, rfl, hon, hbk⟩
      case round =>
        clear hon hbk
        obtain ⟨k, hk, rfl, hon, hbk⟩ := hrel
        by_cases hkl : k < 5
        · have hm : j * 5 + k < 1280 := by omega
          obtain ⟨m, em⟩ : ∃ m : Nat, m = j * 5 + k := ⟨_, rfl⟩
          obtain ⟨t, et⟩ : ∃ t : Nat, t = m / 8 := ⟨_, rfl⟩
          obtain ⟨r, er⟩ : ∃ r : Nat, r = m % 8 := ⟨_, rfl⟩
          have hr8 : r < 8 := by omega
          obtain ⟨c1, c2⟩ := decS_bd f 5 j k
          have hst : decS f 5 j (k + 1) = decS f 5 j k + f t / 2 ^ r % 2 * 2 ^ k := by rw [et, er, em]; rfl
          have ca0 : wr.cell? ⟨bo, j, none⟩ = some (.int .i64 (decS f 5 j k)) := by
            have h := hbk.cell hjl
            unfold ints decA at h
            rw [if_neg (by omega), if_pos rfl] at h
            exact h
          have htl : t < 160 := by omega
          have cb0 : wr.cell? ⟨b, off + t, none⟩ = some (.int .u8 (f t)) := by
            rw [← HB.out.2 t htl]
            simp only [World.cell?, hon.block b (by omega)]
          obtain ⟨f1, f2⟩ := hfb t htl
          have HST := Lib.hid hst
          clear hst
          have hp : (1 : Int) ≤ 2 ^ r ∧ (2 : Int) ^ r ≤ 128 := pow8 r hr8
          obtain ⟨v, ev⟩ : ∃ v : Int, v = f t / 2 ^ r % 2 := ⟨_, rfl⟩
          have hva : bits .and .u8 (f t / 2 ^ r) 1 = v := by
            have h0 : 0 ≤ f t / 2 ^ r := Int.ediv_nonneg f1 (Int.pow_nonneg (by decide))
            have h1 : f t / 2 ^ r ≤ f t := Int.ediv_le_self _ f1
            rw [and1u8 _ ⟨h0, by omega⟩, ev]
          have v1 : v = 0 ∨ v = 1 := by omega
          have HEV := Lib.hid ev
          clear ev
          have hq : (1 : Int) ≤ 2 ^ k ∧ (2 : Int) ^ k ≤ 2048 := pow12 k (by omega)
          have hs2 : v * 2 ^ k = 0 ∨ v * 2 ^ k = 2 ^ k := by rcases v1 with h | h <;> rw [h] <;> simp
          have hwv : IntKind.i64.wrap v = v := by rw [IntKind.wrap_i64]; omega
          have hsh : IntKind.i64.wrap (v * 2 ^ k) = v * 2 ^ k := by rw [IntKind.wrap_i64]; omega
          obtain ⟨c, ec⟩ : ∃ c : Int, c = decS f 5 j k := ⟨_, rfl⟩
          rw [← ec] at ca0 c1 c2
          obtain ⟨s, es⟩ : ∃ s : Int, s = c + v * 2 ^ k := ⟨_, rfl⟩
          have hsu : c + v * 2 ^ k = s := es.symm
          have hsw : IntKind.i64.wrap s = s := by rw [IntKind.wrap_i64]; omega
          have hfin : s = decS f 5 j (k + 1) := by rw [HST.out, ← HEV.out, es, ec]
          have HF := Lib.hid hfin
          clear hfin es ec v1 hs2
          have htz : (t : Int) < 160 := by omega
          have htd : IntKind.i64.wrap (((j : Int) * 5 + k).tdiv 8) = (t : Int) := by rw [Int.tdiv_eq_ediv_of_nonneg (by omega), IntKind.wrap_i64]; omega
          have htm : ((j : Int) * 5 + k).tmod 8 = (r : Int) := by rw [Int.tmod_eq_emod_of_nonneg (by omega)]; omega
          have fp := hbk.frozen j
          clear em et er hp hq
          go_wp2_with fail
          go_still_tail 18, (by kernel_rfl)
          go_wp2_with fail
          go_roundw
          case rel =>
            refine ⟨k + 1, by omega, by go_num, (hon.drew).setCell _, ?_⟩
            have h2 := Blk.setCell (hbk.drew) j (Value.int .i64 s)
            exact h2.congr fun x _ => by
              show (if x = j then _ else Value.int _ _) = Value.int _ _
              rw [decA_step, ← HF.out]
              split <;> rfl
          case measure => simp [intOf]; omega
        · have hk' : k = 5 := by omega
          subst hk'
          go_wp2_with fail
          go_roundw
          case rel => exact ⟨j + 1, by omega, by go_num, hon, hbk.congr fun x _ => by show Value.int _ _ = Value.int _ _; rw [decA_next]⟩
          case measure => simp [intOf]; omega
    · have hj' : j = 256 := by omega
      subst hj'
      have hbk2 : Blk wr bo 29 (cellsF 256 (ints .i64 (decN f 5))) := hbk.congr fun x hx => by show Value.int _ _ = Value.int _ _; rw [decA_all _ _ _ _ _ hx]
      have kr2 := hon.blk (by omega) kr
      have HO := Lib.hid hon
      clear k0 hbk hon
      go_wp2_with (first | (refine wpList_loadA arrI (.tmp 5) bo _ hbk2 (size_cellsF _ _) rfl rfl rfl ?_; simp only [Act.put, List.setIfInBounds_toArray, List.set]) | (refine wpList_storeA arrI (.tmp 4) (.tmp 42) br _ _ kr2 (size_cellsF _ _) (size_cellsF _ _) (one_cellsF _ _ _) rfl rfl rfl rfl ?_; simp only [Act.put]; intro wy oy ky))
      exact bodyPost_cellA arrI rfl br _ ky (size_cellsF _ _) rfl rfl ⟨rfl, oy.ext (HO.out.ext HX.out hw0) hw1⟩

set_option maxRecDepth 100000 in
set_option maxHeartbeats 1000000 in
theorem dec11_any (b off c : Nat) (f : Nat → Int) (w : World) (hb : SlO w b off 352 f) (hfb : ∀ i, i < 352 → 0 ≤ f i ∧ f i ≤ 255) :
    Calls Try.prog 17 #[.slice (some ⟨b, off, none⟩) 352 c, .int .i64 11] w fun e w' => e = .returned (.agg (cellsF 256 (ints .i64 (decN f 11)))) ∧ Ext w w' := by
  have lb := hb.1
  go_enter Try.func17, Try.ntmps17
  refine wp_region_then ?_
  refine wpList_allocA 29 _ _ zeroI rfl rfl ?_
  simp only [Act.put, List.setIfInBounds_toArray, List.set]
  intro w1 br hr x1 kr
  have X1 := Ext.trans (Ext.refl w) x1
  have z1 := x1.size
  have lr := kr.lt
  refine wp_next (wp_region_then ?_)
  refine wpList_build0 intI _ zeroI rfl rfl ?_
  simp only [Act.put, List.setIfInBounds_toArray, List.set]
  refine wpList_allocA 29 _ _ zeroI rfl rfl ?_
  simp only [Act.put, List.setIfInBounds_toArray, List.set]
  intro w2 bo ho x2 ko
  have X2 := Ext.trans X1 x2
  have z2 := x2.size
  replace kr := kr.ext x2
  have lo := ko.lt
  refine wpList_storeA arrI (.tmp 5) (.tmp 9) bo _ (cellsF 256 (ints .i64 fun _ => 0)) ko (size_cellsF _ _) (size_cellsF _ _) (one_cellsF _ _ _) rfl rfl rfl rfl ?_
  simp only [Act.put]
  clear ko
  intro w3 o3 ko
  have X3 := o3.ext X2 (by omega)
  have z3 := o3.size
  replace kr := o3.blk (by omega) kr
  refine wp_next (wp_seq (wp_region_then ?_))
  refine wpList_val (v := .int .i64 0) rfl rfl ?_
  simp only [Act.put, List.setIfInBounds_toArray, List.set]
  refine wp_next ?_
  have hlt : br < bo := by omega
  have hw0 : w.heap.size ≤ bo := by omega
  have hw1 : w.heap.size ≤ br := by omega
  have HB := Lib.hid (hb.ext X3)
  have HX := Lib.hid X3
  have k0 : Blk w3 bo 29 (cellsF 256 (ints .i64 (decA f 11 0 0))) := ko.congr fun i _ => by show Value.int _ _ = Value.int _ _; rw [decA_zero]
  clear hb ko X1 X2 X3
  go_wp2_with fail
  go_loopw [10] (fun i wr => ∃ j : Nat, j ≤ 256 ∧ i = .int .i64 j ∧ Only bo w3 wr ∧ Blk wr bo 29 (cellsF 256 (ints .i64 (decA f 11 j 0)))) (fun i _ => 256 - (intOf i).toNat)
  case atStart => exact ⟨0, by omega, rfl, Only.refl _ _, k0⟩
  case round =>
    obtain ⟨j, hj, rfl, hon, hbk⟩ := hrel
    by_cases hjl : j < 256
    · clear k0
      go_wp2_with fail
      have hjz : decide ((j : Int) < 256) = true := decide_eq_true (by omega)
      rw [hjz]
      clear hjz
      go_loopw [7] (fun i wr => ∃ k : Nat, k ≤ 11 ∧ i = .int .i64 k ∧ Only bo w3 wr ∧ Blk wr bo 29 (cellsF 256 (ints .i64 (decA f 11 j k)))) (fun i _ => 11 - (intOf i).toNat)
      case atStart => exact ⟨0, by omega, rfl, hon, hbk⟩
      case round =>
        clear hon hbk
        obtain ⟨k, hk, rfl, hon, hbk⟩ := hrel
        by_cases hkl : k < 11
        · have hm : j * 11 + k < 2816 := by omega
          obtain ⟨m, em⟩ : ∃ m : Nat, m = j * 11 + k := ⟨_, rfl⟩
          obtain ⟨t, et⟩ : ∃ t : Nat, t = m / 8 := ⟨_, rfl⟩
          obtain ⟨r, er⟩ : ∃ r : Nat, r = m % 8 := ⟨_, rfl⟩
          have hr8 : r < 8 := by omega
          obtain ⟨c1, c2⟩ := decS_bd f 11 j k
          have hst : decS f 11 j (k + 1) = decS f 11 j k + f t / 2 ^ r % 2 * 2 ^ k := by rw [et, er, em]; rfl
          have ca0 : wr.cell? ⟨bo, j, none⟩ = some (.int .i64 (decS f 11 j k)) := by
            have h := hbk.cell hjl
            unfold ints decA at h
            rw [if_neg (by omega), if_pos rfl] at h
            exact h
          have htl : t < 352 := by omega
          have cb0 : wr.cell? ⟨b, off + t, none⟩ = some (.int .u8 (f t)) := by
            rw [← HB.out.2 t htl]
            simp only [World.cell?, hon.block b (by omega)]
          obtain ⟨f1, f2⟩ := hfb t htl
          have HST := Lib.hid hst
          clear hst
          have hp : (1 : Int) ≤ 2 ^ r ∧ (2 : Int) ^ r ≤ 128 := pow8 r hr8
          obtain ⟨v, ev⟩ : ∃ v : Int, v = f t / 2 ^ r % 2 := ⟨_, rfl⟩
          have hva : bits .and .u8 (f t / 2 ^ r) 1 = v := by
            have h0 : 0 ≤ f t / 2 ^ r := Int.ediv_nonneg f1 (Int.pow_nonneg (by decide))
            have h1 : f t / 2 ^ r ≤ f t := Int.ediv_le_self _ f1
            rw [and1u8 _ ⟨h0, by omega⟩, ev]
          have v1 : v = 0 ∨ v = 1 := by omega
          have HEV := Lib.hid ev
          clear ev
          have hq : (1 : Int) ≤ 2 ^ k ∧ (2 : Int) ^ k ≤ 2048 := pow12 k (by omega)
          have hs2 : v * 2 ^ k = 0 ∨ v * 2 ^ k = 2 ^ k := by rcases v1 with h | h <;> rw [h] <;> simp
          have hwv : IntKind.i64.wrap v = v := by rw [IntKind.wrap_i64]; omega
          have hsh : IntKind.i64.wrap (v * 2 ^ k) = v * 2 ^ k := by rw [IntKind.wrap_i64]; omega
          obtain ⟨c, ec⟩ : ∃ c : Int, c = decS f 11 j k := ⟨_, rfl⟩
          rw [← ec] at ca0 c1 c2
          obtain ⟨s, es⟩ : ∃ s : Int, s = c + v * 2 ^ k := ⟨_, rfl⟩
          have hsu : c + v * 2 ^ k = s := es.symm
          have hsw : IntKind.i64.wrap s = s := by rw [IntKind.wrap_i64]; omega
          have hfin : s = decS f 11 j (k + 1) := by rw [HST.out, ← HEV.out, es, ec]
          have HF := Lib.hid hfin
          clear hfin es ec v1 hs2
          have htz : (t : Int) < 352 := by omega
          have htd : IntKind.i64.wrap (((j : Int) * 11 + k).tdiv 8) = (t : Int) := by rw [Int.tdiv_eq_ediv_of_nonneg (by omega), IntKind.wrap_i64]; omega
          have htm : ((j : Int) * 11 + k).tmod 8 = (r : Int) := by rw [Int.tmod_eq_emod_of_nonneg (by omega)]; omega
          have fp := hbk.frozen j
          clear em et er hp hq
          go_wp2_with fail
          go_still_tail 18, (by kernel_rfl)
          go_wp2_with fail
          go_roundw
          case rel =>
            refine ⟨k + 1, by omega, by go_num, (hon.drew).setCell _, ?_⟩
            have h2 := Blk.setCell (hbk.drew) j (Value.int .i64 s)
            exact h2.congr fun x _ => by
              show (if x = j then _ else Value.int _ _) = Value.int _ _
              rw [decA_step, ← HF.out]
              split <;> rfl
          case measure => simp [intOf]; omega
        · have hk' : k = 11 := by omega
          subst hk'
          go_wp2_with fail
          go_roundw
          case rel => exact ⟨j + 1, by omega, by go_num, hon, hbk.congr fun x _ => by show Value.int _ _ = Value.int _ _; rw [decA_next]⟩
          case measure => simp [intOf]; omega
    · have hj' : j = 256 := by omega
      subst hj'
      have hbk2 : Blk wr bo 29 (cellsF 256 (ints .i64 (decN f 11))) := hbk.congr fun x hx => by show Value.int _ _ = Value.int _ _; rw [decA_all _ _ _ _ _ hx]
      have kr2 := hon.blk (by omega) kr
      have HO := Lib.hid hon
      clear k0 hbk hon
      go_wp2_with (first | (refine wpList_loadA arrI (.tmp 5) bo _ hbk2 (size_cellsF _ _) rfl rfl rfl ?_; simp only [Act.put, List.setIfInBounds_toArray, List.set]) | (refine wpList_storeA arrI (.tmp 4) (.tmp 42) br _ _ kr2 (size_cellsF _ _) (size_cellsF _ _) (one_cellsF _ _ _) rfl rfl rfl rfl ?_; simp only [Act.put]; intro wy oy ky))
      exact bodyPost_cellA arrI rfl br _ ky (size_cellsF _ _) rfl rfl ⟨rfl, oy.ext (HO.out.ext HX.out hw0) hw1⟩

set_option maxRecDepth 100000 in
set_option maxHeartbeats 1000000 in
theorem dec1_any (b off c : Nat) (f : Nat → Int) (w : World) (hb : SlO w b off 32 f) (hfb : ∀ i, i < 32 → 0 ≤ f i ∧ f i ≤ 255) :
    Calls Try.prog 17 #[.slice (some ⟨b, off, none⟩) 32 c, .int .i64 1] w fun e w' => e = .returned (.agg (cellsF 256 (ints .i64 (decN f 1)))) ∧ Ext w w' := by
  have lb := hb.1
  go_enter Try.func17, Try.ntmps17
  refine wp_region_then ?_
  refine wpList_allocA 29 _ _ zeroI rfl rfl ?_
  simp only [Act.put, List.setIfInBounds_toArray, List.set]
  intro w1 br hr x1 kr
  have X1 := Ext.trans (Ext.refl w) x1
  have z1 := x1.size
  have lr := kr.lt
  refine wp_next (wp_region_then ?_)
  refine wpList_build0 intI _ zeroI rfl rfl ?_
  simp only [Act.put, List.setIfInBounds_toArray, List.set]
  refine wpList_allocA 29 _ _ zeroI rfl rfl ?_
  simp only [Act.put, List.setIfInBounds_toArray, List.set]
  intro w2 bo ho x2 ko
  have X2 := Ext.trans X1 x2
  have z2 := x2.size
  replace kr := kr.ext x2
  have lo := ko.lt
  refine wpList_storeA arrI (.tmp 5) (.tmp 9) bo _ (cellsF 256 (ints .i64 fun _ => 0)) ko (size_cellsF _ _) (size_cellsF _ _) (one_cellsF _ _ _) rfl rfl rfl rfl ?_
  simp only [Act.put]
  clear ko
  intro w3 o3 ko
  have X3 := o3.ext X2 (by omega)
  have z3 := o3.size
  replace kr := o3.blk (by omega) kr
  refine wp_next (wp_seq (wp_region_then ?_))
  refine wpList_val (v := .int .i64 0) rfl rfl ?_
  simp only [Act.put, List.setIfInBounds_toArray, List.set]
  refine wp_next ?_
  have hlt : br < bo := by omega
  have hw0 : w.heap.size ≤ bo := by omega
  have hw1 : w.heap.size ≤ br := by omega
  have HB := Lib.hid (hb.ext X3)
  have HX := Lib.hid X3
  have k0 : Blk w3 bo 29 (cellsF 256 (ints .i64 (decA f 1 0 0))) := ko.congr fun i _ => by show Value.int _ _ = Value.int _ _; rw [decA_zero]
  clear hb ko X1 X2 X3
  go_wp2_with fail
  go_loopw [10] (fun i wr => ∃ j : Nat, j ≤ 256 ∧ i = .int .i64 j ∧ Only bo w3 wr ∧ Blk wr bo 29 (cellsF 256 (ints .i64 (decA f 1 j 0)))) (fun i _ => 256 - (intOf i).toNat)
  case atStart => exact ⟨0, by omega, rfl, Only.refl _ _, k0⟩
  case round =>
    obtain ⟨j, hj, rfl, hon, hbk⟩ := hrel
    by_cases hjl : j < 256
    · clear k0
      go_wp2_with fail
      have hjz : decide ((j : Int) < 256) = true := decide_eq_true (by omega)
      rw [hjz]
      clear hjz
      go_loopw [7] (fun i wr => ∃ k : Nat, k ≤ 1 ∧ i = .int .i64 k ∧ Only bo w3 wr ∧ Blk wr bo 29 (cellsF 256 (ints .i64 (decA f 1 j k)))) (fun i _ => 1 - (intOf i).toNat)
      case atStart => exact ⟨0, by omega, rfl, hon, hbk⟩
      case round =>
        clear hon hbk
        obtain ⟨k, hk, rfl, hon, hbk⟩ := hrel
        by_cases hkl : k < 1
        · have hm : j * 1 + k < 256 := by omega
          obtain ⟨m, em⟩ : ∃ m : Nat, m = j * 1 + k := ⟨_, rfl⟩
          obtain ⟨t, et⟩ : ∃ t : Nat, t = m / 8 := ⟨_, rfl⟩
          obtain ⟨r, er⟩ : ∃ r : Nat, r = m % 8 := ⟨_, rfl⟩
          have hr8 : r < 8 := by omega
          obtain ⟨c1, c2⟩ := decS_bd f 1 j k
          have hst : decS f 1 j (k + 1) = decS f 1 j k + f t / 2 ^ r % 2 * 2 ^ k := by rw [et, er, em]; rfl
          have ca0 : wr.cell? ⟨bo, j, none⟩ = some (.int .i64 (decS f 1 j k)) := by
            have h := hbk.cell hjl
            unfold ints decA at h
            rw [if_neg (by omega), if_pos rfl] at h
            exact h
          have htl : t < 32 := by omega
          have cb0 : wr.cell? ⟨b, off + t, none⟩ = some (.int .u8 (f t)) := by
            rw [← HB.out.2 t htl]
            simp only [World.cell?, hon.block b (by omega)]
          obtain ⟨f1, f2⟩ := hfb t htl
          have HST := Lib.hid hst
          clear hst
          have hp : (1 : Int) ≤ 2 ^ r ∧ (2 : Int) ^ r ≤ 128 := pow8 r hr8
          obtain ⟨v, ev⟩ : ∃ v : Int, v = f t / 2 ^ r % 2 := ⟨_, rfl⟩
          have hva : bits .and .u8 (f t / 2 ^ r) 1 = v := by
            have h0 : 0 ≤ f t / 2 ^ r := Int.ediv_nonneg f1 (Int.pow_nonneg (by decide))
            have h1 : f t / 2 ^ r ≤ f t := Int.ediv_le_self _ f1
            rw [and1u8 _ ⟨h0, by omega⟩, ev]
          have v1 : v = 0 ∨ v = 1 := by omega
          have HEV := Lib.hid ev
          clear ev
          have hq : (1 : Int) ≤ 2 ^ k ∧ (2 : Int) ^ k ≤ 2048 := pow12 k (by omega)
          have hs2 : v * 2 ^ k = 0 ∨ v * 2 ^ k = 2 ^ k := by rcases v1 with h | h <;> rw [h] <;> simp
          have hwv : IntKind.i64.wrap v = v := by rw [IntKind.wrap_i64]; omega
          have hsh : IntKind.i64.wrap (v * 2 ^ k) = v * 2 ^ k := by rw [IntKind.wrap_i64]; omega
          obtain ⟨c, ec⟩ : ∃ c : Int, c = decS f 1 j k := ⟨_, rfl⟩
          rw [← ec] at ca0 c1 c2
          obtain ⟨s, es⟩ : ∃ s : Int, s = c + v * 2 ^ k := ⟨_, rfl⟩
          have hsu : c + v * 2 ^ k = s := es.symm
          have hsw : IntKind.i64.wrap s = s := by rw [IntKind.wrap_i64]; omega
          have hfin : s = decS f 1 j (k + 1) := by rw [HST.out, ← HEV.out, es, ec]
          have HF := Lib.hid hfin
          clear hfin es ec v1 hs2
          have htz : (t : Int) < 32 := by omega
          have htd : IntKind.i64.wrap (((j : Int) + k).tdiv 8) = (t : Int) := by rw [Int.tdiv_eq_ediv_of_nonneg (by omega), IntKind.wrap_i64]; omega
          have htm : ((j : Int) + k).tmod 8 = (r : Int) := by rw [Int.tmod_eq_emod_of_nonneg (by omega)]; omega
          have fp := hbk.frozen j
          clear em et er hp hq
          go_wp2_with fail
          go_still_tail 18, (by kernel_rfl)
          go_wp2_with fail
          go_roundw
          case rel =>
            refine ⟨k + 1, by omega, by go_num, (hon.drew).setCell _, ?_⟩
            have h2 := Blk.setCell (hbk.drew) j (Value.int .i64 s)
            exact h2.congr fun x _ => by
              show (if x = j then _ else Value.int _ _) = Value.int _ _
              rw [decA_step, ← HF.out]
              split <;> rfl
          case measure => simp [intOf]; omega
        · have hk' : k = 1 := by omega
          subst hk'
          go_wp2_with fail
          go_roundw
          case rel => exact ⟨j + 1, by omega, by go_num, hon, hbk.congr fun x _ => by show Value.int _ _ = Value.int _ _; rw [decA_next]⟩
          case measure => simp [intOf]; omega
    · have hj' : j = 256 := by omega
      subst hj'
      have hbk2 : Blk wr bo 29 (cellsF 256 (ints .i64 (decN f 1))) := hbk.congr fun x hx => by show Value.int _ _ = Value.int _ _; rw [decA_all _ _ _ _ _ hx]
      have kr2 := hon.blk (by omega) kr
      have HO := Lib.hid hon
      clear k0 hbk hon
      go_wp2_with (first | (refine wpList_loadA arrI (.tmp 5) bo _ hbk2 (size_cellsF _ _) rfl rfl rfl ?_; simp only [Act.put, List.setIfInBounds_toArray, List.set]) | (refine wpList_storeA arrI (.tmp 4) (.tmp 42) br _ _ kr2 (size_cellsF _ _) (size_cellsF _ _) (one_cellsF _ _ _) rfl rfl rfl rfl ?_; simp only [Act.put]; intro wy oy ky))
      exact bodyPost_cellA arrI rfl br _ ky (size_cellsF _ _) rfl rfl ⟨rfl, oy.ext (HO.out.ext HX.out hw0) hw1⟩

end Go.Proofs.Ytngmpnkhdjnhoaa
