/- Pack, Unpack (Kyber). -/
import Derived.Test.YtngmpnkhdjnhoaaKTan
import Derived.Test.YtngmpnkhdjnhoaaEncK
import Derived.Test.YtngmpnkhdjnhoaaStore
import Derived.Test.YtngmpnkhdjnhoaaBits
import Derived.Lib.Hide
namespace Go.Proofs.Ytngmpnkhdjnhoaa
open Go Go.Proofs Go.RowKit Go.Kd
set_option linter.unusedSimpArgs false
set_option linter.unusedVariables false
theorem szB : (Try.prog.info? 5).map (·.size) = some 1 := by kernel_rfl
theorem pack_any_ar0 (x0 g : Int) (h_x0 : 0 ≤ x0 ∧ x0 ≤ 4095) (hg : g = x0 % 256) : ∃ y1 : Int, IntKind.u8.wrap x0 = y1 ∧ (x0) % 256 = y1 ∧ y1 = g := by
  obtain ⟨y1, hy1⟩ : ∃ y, IntKind.u8.wrap x0 = y := ⟨_, rfl⟩
  have my1 : y1 = (x0) % 256 := by rw [← hy1, IntKind.wrap_u8]
  exact ⟨y1, hy1, my1.symm, by rw [hg]; omega⟩
theorem pack_any_ar1 (x0 x1 g : Int) (h_x0 : 0 ≤ x0 ∧ x0 ≤ 4095) (h_x1 : 0 ≤ x1 ∧ x1 ≤ 4095) (hg : g = x0 / 256 + x1 % 16 * 16) : ∃ y2 y3 y4 y5 y6 : Int, x0 / 256 = y2 ∧ IntKind.u8.wrap y2 = y3 ∧ IntKind.i16.wrap (x1 * 16) = y4 ∧ IntKind.u8.wrap y4 = y5 ∧ bits .or .u8 y3 y5 = y6 ∧ (y2) % 256 = y3 ∧ (y4) % 256 = y5 ∧ y6 = g := by
  obtain ⟨y2, hy2⟩ : ∃ y, x0 / 256 = y := ⟨_, rfl⟩
  have my2 : y2 = x0 / 256 := hy2.symm
  obtain ⟨y3, hy3⟩ : ∃ y, IntKind.u8.wrap y2 = y := ⟨_, rfl⟩
  have my3 : y3 = (y2) % 256 := by rw [← hy3, IntKind.wrap_u8]
  obtain ⟨y4, hy4⟩ : ∃ y, IntKind.i16.wrap (x1 * 16) = y := ⟨_, rfl⟩
  have my4 : y4 = (x1 * 16 + 32768) % 65536 - 32768 := by rw [← hy4, wrap_i16']
  obtain ⟨y5, hy5⟩ : ∃ y, IntKind.u8.wrap y4 = y := ⟨_, rfl⟩
  have my5 : y5 = (y4) % 256 := by rw [← hy5, IntKind.wrap_u8]
  obtain ⟨y6, hy6⟩ : ∃ y, bits .or .u8 y3 y5 = y := ⟨_, rfl⟩
  have my6 : y6 = y3 + y5 := by rw [← hy6]; exact or_u8 y3 y5 4 (y5 / 16) (by omega) (by omega) (by omega) (by omega) (by omega)
  exact ⟨y2, y3, y4, y5, y6, hy2, hy3, hy4, hy5, hy6, my3.symm, my5.symm, by rw [hg]; omega⟩
theorem pack_any_ar2 (x1 g : Int) (h_x1 : 0 ≤ x1 ∧ x1 ≤ 4095) (hg : g = x1 / 16) : ∃ y7 y8 : Int, x1 / 16 = y7 ∧ IntKind.u8.wrap y7 = y8 ∧ (y7) % 256 = y8 ∧ y8 = g := by
  obtain ⟨y7, hy7⟩ : ∃ y, x1 / 16 = y := ⟨_, rfl⟩
  have my7 : y7 = x1 / 16 := hy7.symm
  obtain ⟨y8, hy8⟩ : ∃ y, IntKind.u8.wrap y7 = y := ⟨_, rfl⟩
  have my8 : y8 = (y7) % 256 := by rw [← hy8, IntKind.wrap_u8]
  exact ⟨y7, y8, hy7, hy8, my8.symm, by rw [hg]; omega⟩
set_option maxRecDepth 100000 in
set_option maxHeartbeats 6000000 in
theorem pack_any (bp bd : Nat) (w0 w : World) (Tp Td : TypeId) (f G Z : Nat → Int) (kp : Blk w bp Tp (cellsF 256 (ints .i16 f))) (kd : Blk w bd Td (cellsF 384 (ints .u8 Z))) (hx0 : Ext w0 w) (hsz : w0.heap.size ≤ bd) (hf : ∀ i, i < 256 → 0 ≤ f i ∧ f i ≤ 4095)
    (hG0 : ∀ r, r < 128 → G (3 * r + 0) = f (2 * r + 0) % 256) (hG1 : ∀ r, r < 128 → G (3 * r + 1) = f (2 * r + 0) / 256 + f (2 * r + 1) % 16 * 16) (hG2 : ∀ r, r < 128 → G (3 * r + 2) = f (2 * r + 1) / 16) :
    Calls Try.prog 27 #[.pointer (some ⟨bp, 0, none⟩), .slice (some ⟨bd, 0, none⟩) 384 384] w fun e w' => e = .returned (.tuple #[]) ∧ Ext w0 w' ∧ Blk w' bd Td (cellsF 384 (ints .u8 G)) := by
  have lp := kp.lt
  have ld := kd.lt
  go_enter Try.func27, Try.ntmps27
  refine wp_region_then ?_
  refine wpList_val (v := .pointer (some ⟨bp, 0, none⟩)) rfl rfl ?_
  simp only [Act.put, List.setIfInBounds_toArray, List.set]
  refine wpList_val (v := .pointer (some ⟨bp, 0, none⟩)) rfl rfl ?_
  simp only [Act.put, List.setIfInBounds_toArray, List.set]
  refine wpList_loadA arrP (.tmp 9) bp _ kp (size_cellsF _ _) rfl rfl rfl ?_
  simp only [Act.put, List.setIfInBounds_toArray, List.set]
  refine wpList_allocA 47 _ _ zeroP rfl rfl ?_
  simp only [Act.put, List.setIfInBounds_toArray, List.set]
  intro w1 bs hs x1 ks
  have X1 := Ext.trans hx0 x1
  have z1 := x1.size
  replace kp := kp.ext x1
  replace kd := kd.ext x1
  have ls := ks.lt
  refine wpList_storeA arrP (.tmp 4) (.tmp 10) bs _ _ ks (size_cellsF _ _) (size_cellsF _ _) (one_cellsF _ _ _) rfl rfl rfl rfl ?_
  simp only [Act.put]
  clear ks
  intro w2 o2 ks
  have X2 := o2.ext X1 (by omega)
  have z2 := o2.size
  replace kp := o2.blk (by omega) kp
  replace kd := o2.blk (by omega) kd
  refine wp_next (wp_region_then ?_)
  refine wpList_call0 _ _ Try.func31 (by kernel_rfl) (by kernel_rfl) rfl rfl (Detangle_any bs _ _ f ks) ?_
  simp only [Act.put, List.setIfInBounds_toArray, List.set]
  clear ks
  rintro w3 ⟨o3, ks⟩
  have X3 := o3.ext X2 (by omega)
  have z3 := o3.size
  replace kp := o3.blk (by omega) kp
  replace kd := o3.blk (by omega) kd
  have hsw := ks.rowK
  have hs : RowK w3 bs 256 .i16 f := hsw
  have hd := kd
  have hne : bs ≠ bd := by omega
  have HX := Lib.hid X3
  clear hsw kd kp ks hx0 X1 X2 X3 x1
  refine wp_next ?_
  go_wp2_with fail
  go_loopw [5] (fun y wr => ∃ r : Nat, r ≤ 128 ∧ y = .int .i64 (r : Nat) ∧ Only bd w3 wr ∧ Blk wr bd Td (cellsF 384 (upto (3 * r) (ints .u8 G) (ints .u8 Z)))) (fun y _ => 128 - (intOf y).toNat)
  case atStart => exact ⟨0, by omega, rfl, Only.refl _ _, by rw [upto_zero]; exact hd⟩
  case round =>
    obtain ⟨r, hr, rfl, hon, hbk⟩ := hrel
    by_cases hl : r < 128
    · have hrow : ∀ w1, Only bd w3 w1 → RowK w1 bs 256 .i16 f := fun w1 h => hs.only hne h
      obtain ⟨p0, ep0⟩ : ∃ p : Nat, p = 2 * r + 0 := ⟨_, rfl⟩
      obtain ⟨p1, ep1⟩ : ∃ p : Nat, p = 2 * r + 1 := ⟨_, rfl⟩
      obtain ⟨b0, eb0⟩ : ∃ p : Nat, p = 3 * r + 0 := ⟨_, rfl⟩
      obtain ⟨b1, eb1⟩ : ∃ p : Nat, p = 3 * r + 1 := ⟨_, rfl⟩
      obtain ⟨b2, eb2⟩ : ∃ p : Nat, p = 3 * r + 2 := ⟨_, rfl⟩
      obtain ⟨la0, lb0⟩ := hf p0 (by omega)
      obtain ⟨la1, lb1⟩ := hf p1 (by omega)
      have gg0 : G b0 = f p0 % 256 := by rw [eb0, hG0 r hl]; simp only [ep0, ep1]
      have gg1 : G b1 = f p0 / 256 + f p1 % 16 * 16 := by rw [eb1, hG1 r hl]; simp only [ep0, ep1]
      have gg2 : G b2 = f p1 / 16 := by rw [eb2, hG2 r hl]; simp only [ep0, ep1]
      generalize hx0 : f p0 = x0 at *
      generalize hx1 : f p1 = x1 at *
      generalize hg0 : G b0 = g0 at *
      generalize hg1 : G b1 = g1 at *
      generalize hg2 : G b2 = g2 at *
      have HX0 := Lib.hid hx0; clear hx0
      have HX1 := Lib.hid hx1; clear hx1
      have HG0 := Lib.hid hg0; clear hg0
      have HG1 := Lib.hid hg1; clear hg1
      have HG2 := Lib.hid hg2; clear hg2
      obtain ⟨y1, hy1, my1, fin0⟩ := pack_any_ar0 x0 g0 ⟨la0, lb0⟩ gg0
      obtain ⟨y2, y3, y4, y5, y6, hy2, hy3, hy4, hy5, hy6, my3, my5, fin1⟩ := pack_any_ar1 x0 x1 g1 ⟨la0, lb0⟩ ⟨la1, lb1⟩ gg1
      obtain ⟨y7, y8, hy7, hy8, my8, fin2⟩ := pack_any_ar2 x1 g2 ⟨la1, lb1⟩ gg2
      clear gg0 gg1 gg2
      have FIN0 := Lib.hid fin0; clear fin0
      have FIN1 := Lib.hid fin1; clear fin1
      have FIN2 := Lib.hid fin2; clear fin2
      have zp0 : 2 * (r : Int) = (p0 : Int) := by omega
      have up0 : IntKind.i64.wrap (p0 : Int) = (p0 : Int) := by rw [IntKind.wrap_i64]; omega
      have tp0 : (p0 : Int) < 256 := by omega
      have zp1 : (p0 : Int) + 1 = (p1 : Int) := by omega
      have up1 : IntKind.i64.wrap (p1 : Int) = (p1 : Int) := by rw [IntKind.wrap_i64]; omega
      have tp1 : (p1 : Int) < 256 := by omega
      have zb0 : 3 * (r : Int) = (b0 : Int) := by omega
      have ub0 : IntKind.i64.wrap (b0 : Int) = (b0 : Int) := by rw [IntKind.wrap_i64]; omega
      have tb0 : (b0 : Int) < 384 := by omega
      have zb1 : (b0 : Int) + 1 = (b1 : Int) := by omega
      have ub1 : IntKind.i64.wrap (b1 : Int) = (b1 : Int) := by rw [IntKind.wrap_i64]; omega
      have tb1 : (b1 : Int) < 384 := by omega
      have zb2 : (b0 : Int) + 2 = (b2 : Int) := by omega
      have ub2 : IntKind.i64.wrap (b2 : Int) = (b2 : Int) := by rw [IntKind.wrap_i64]; omega
      have tb2 : (b2 : Int) < 384 := by omega
      have nb0 : b0 < 384 := by omega
      have nb1 : b1 < 384 := by omega
      have nb2 : b2 < 384 := by omega
      have np0 : p0 < 256 := by omega
      have np1 : p1 < 256 := by omega
      have Ep0 := Lib.hid ep0; clear ep0
      have Ep1 := Lib.hid ep1; clear ep1
      have Eb0 := Lib.hid eb0; clear eb0
      have Eb1 := Lib.hid eb1; clear eb1
      have Eb2 := Lib.hid eb2; clear eb2
      have ca0 : wr.cell? ⟨bs, p0, none⟩ = some (.int .i16 x0) := (by rw [← HX0.out]; exact (hrow _ hon).2 _ np0)
      have ca1 : wr.cell? ⟨bs, p1, none⟩ = some (.int .i16 x1) := (by rw [← HX1.out]; exact (hrow _ hon).2 _ np1)
      clear hs hd hf hG0 hG1 hG2
      go_wp2_with (first | (refine wpList_storeI szB (.tmp 30) (.tmp 29) bd b0 .u8 y1 hbk nb0 rfl rfl rfl rfl ?_; intro w1 o1 k1; have on1 := hon.trans o1; clear ca0 ca1; have ca0 : w1.cell? ⟨bs, p0, none⟩ = some (.int .i16 x0) := (by rw [← HX0.out]; exact (hrow _ on1).2 _ np0); have ca1 : w1.cell? ⟨bs, p1, none⟩ = some (.int .i16 x1) := (by rw [← HX1.out]; exact (hrow _ on1).2 _ np1); simp only [Act.put]) | (refine wpList_storeI szB (.tmp 42) (.tmp 41) bd b1 .u8 y6 k1 nb1 rfl rfl rfl rfl ?_; intro w2 o2 k2; have on2 := on1.trans o2; clear ca0 ca1; have ca0 : w2.cell? ⟨bs, p0, none⟩ = some (.int .i16 x0) := (by rw [← HX0.out]; exact (hrow _ on2).2 _ np0); have ca1 : w2.cell? ⟨bs, p1, none⟩ = some (.int .i16 x1) := (by rw [← HX1.out]; exact (hrow _ on2).2 _ np1); simp only [Act.put]) | (refine wpList_storeI szB (.tmp 50) (.tmp 49) bd b2 .u8 y8 k2 nb2 rfl rfl rfl rfl ?_; intro w3 o3 k3; have on3 := on2.trans o3; clear ca0 ca1; have ca0 : w3.cell? ⟨bs, p0, none⟩ = some (.int .i16 x0) := (by rw [← HX0.out]; exact (hrow _ on3).2 _ np0); have ca1 : w3.cell? ⟨bs, p1, none⟩ = some (.int .i16 x1) := (by rw [← HX1.out]; exact (hrow _ on3).2 _ np1); simp only [Act.put]))
      go_roundw
      case rel =>
        have ep0 := Ep0.out
        have ep1 := Ep1.out
        have eb0 := Eb0.out
        have eb1 := Eb1.out
        have eb2 := Eb2.out
        refine ⟨r + 1, by omega, by go_num, on3, ?_⟩
        refine k3.congr fun x hx => ?_
        unfold upto ints
        by_cases c2 : x = b2
        · rw [if_pos c2, if_pos (by omega), c2, HG2.out, FIN2.out]
        rw [if_neg c2]
        by_cases c1 : x = b1
        · rw [if_pos c1, if_pos (by omega), c1, HG1.out, FIN1.out]
        rw [if_neg c1]
        by_cases c0 : x = b0
        · rw [if_pos c0, if_pos (by omega), c0, HG0.out, FIN0.out]
        rw [if_neg c0]
        by_cases hlt : x < 3 * r
        · rw [if_pos hlt, if_pos (by omega)]
        · rw [if_neg hlt, if_neg (by omega)]
      case measure => simp [intOf]; omega
    · have hr' : r = 128 := by omega
      subst hr'
      go_wp2_with fail
      go_end0
      exact ⟨rfl, hon.ext HX.out hsz, by rw [show 3 * 128 = 384 by omega, upto_all] at hbk; exact hbk⟩
theorem unpack_any_ar0 (x1 x0 g : Int) (h_x1 : 0 ≤ x1 ∧ x1 ≤ 255) (h_x0 : 0 ≤ x0 ∧ x0 ≤ 255) (hg : g = x0 + x1 % 16 * 256) : ∃ y1 y2 y3 : Int, IntKind.i16.wrap (x1 * 256) = y1 ∧ bits .and .i16 y1 4095 = y2 ∧ bits .or .i16 x0 y2 = y3 ∧ y3 = g := by
  obtain ⟨y1, hy1⟩ : ∃ y, IntKind.i16.wrap (x1 * 256) = y := ⟨_, rfl⟩
  have my1 : y1 = (x1 * 256 + 32768) % 65536 - 32768 := by rw [← hy1, wrap_i16']
  obtain ⟨y2, hy2⟩ : ∃ y, bits .and .i16 y1 4095 = y := ⟨_, rfl⟩
  have my2 : y2 = y1 % 4096 := by rw [← hy2]; exact and_i16 y1 12 _ (by decide) (by decide)
  obtain ⟨y3, hy3⟩ : ∃ y, bits .or .i16 x0 y2 = y := ⟨_, rfl⟩
  have my3 : y3 = x0 + y2 := by rw [← hy3]; exact or_i16 x0 y2 8 (y2 / 256) (by omega) (by omega) (by omega) (by omega) (by omega)
  exact ⟨y1, y2, y3, hy1, hy2, hy3, by rw [hg]; omega⟩
theorem unpack_any_ar1 (x1 x2 g : Int) (h_x1 : 0 ≤ x1 ∧ x1 ≤ 255) (h_x2 : 0 ≤ x2 ∧ x2 ≤ 255) (hg : g = x1 / 16 + x2 * 16) : ∃ y4 y5 y6 y7 : Int, x1 / 16 = y4 ∧ IntKind.i16.wrap y4 = y5 ∧ IntKind.i16.wrap (x2 * 16) = y6 ∧ bits .or .i16 y5 y6 = y7 ∧ y7 = g := by
  obtain ⟨y4, hy4⟩ : ∃ y, x1 / 16 = y := ⟨_, rfl⟩
  have my4 : y4 = x1 / 16 := hy4.symm
  obtain ⟨y5, hy5⟩ : ∃ y, IntKind.i16.wrap y4 = y := ⟨_, rfl⟩
  have my5 : y5 = (y4 + 32768) % 65536 - 32768 := by rw [← hy5, wrap_i16']
  obtain ⟨y6, hy6⟩ : ∃ y, IntKind.i16.wrap (x2 * 16) = y := ⟨_, rfl⟩
  have my6 : y6 = (x2 * 16 + 32768) % 65536 - 32768 := by rw [← hy6, wrap_i16']
  obtain ⟨y7, hy7⟩ : ∃ y, bits .or .i16 y5 y6 = y := ⟨_, rfl⟩
  have my7 : y7 = y5 + y6 := by rw [← hy7]; exact or_i16 y5 y6 4 (y6 / 16) (by omega) (by omega) (by omega) (by omega) (by omega)
  exact ⟨y4, y5, y6, y7, hy4, hy5, hy6, hy7, by rw [hg]; omega⟩
set_option maxRecDepth 100000 in
set_option maxHeartbeats 6000000 in
theorem unpack_any (bs bd cp : Nat) (w : World) (Td : TypeId) (f G Z : Nat → Int) (hs : RowK w bs 384 .u8 f) (hd : Blk w bd Td (cellsF 256 (ints .i16 Z))) (hne : bs ≠ bd) (hf : ∀ i, i < 384 → 0 ≤ f i ∧ f i ≤ 255)
    (hG0 : ∀ r, r < 128 → G (2 * r + 0) = f (3 * r + 0) + f (3 * r + 1) % 16 * 256) (hG1 : ∀ r, r < 128 → G (2 * r + 1) = f (3 * r + 1) / 16 + f (3 * r + 2) * 16) :
    Calls Try.prog 29 #[.pointer (some ⟨bd, 0, none⟩), .slice (some ⟨bs, 0, none⟩) 384 cp] w fun e w' => e = .returned (.tuple #[]) ∧ Only bd w w' ∧ Blk w' bd Td (cellsF 256 (ints .i16 G)) := by
  go_enter Try.func29, Try.ntmps29
  go_wp2_with fail
  go_loopw [4] (fun y wr => ∃ r : Nat, r ≤ 128 ∧ y = .int .i64 (r : Nat) ∧ Only bd w wr ∧ Blk wr bd Td (cellsF 256 (upto (2 * r) (ints .i16 G) (ints .i16 Z)))) (fun y _ => 128 - (intOf y).toNat)
  case atStart => exact ⟨0, by omega, rfl, Only.refl _ _, by rw [upto_zero]; exact hd⟩
  case round =>
    obtain ⟨r, hr, rfl, hon, hbk⟩ := hrel
    by_cases hl : r < 128
    · have hrow : ∀ w1, Only bd w w1 → RowK w1 bs 384 .u8 f := fun w1 h => hs.only hne h
      obtain ⟨p0, ep0⟩ : ∃ p : Nat, p = 2 * r + 0 := ⟨_, rfl⟩
      obtain ⟨p1, ep1⟩ : ∃ p : Nat, p = 2 * r + 1 := ⟨_, rfl⟩
      obtain ⟨b0, eb0⟩ : ∃ p : Nat, p = 3 * r + 0 := ⟨_, rfl⟩
      obtain ⟨b1, eb1⟩ : ∃ p : Nat, p = 3 * r + 1 := ⟨_, rfl⟩
      obtain ⟨b2, eb2⟩ : ∃ p : Nat, p = 3 * r + 2 := ⟨_, rfl⟩
      obtain ⟨la0, lb0⟩ := hf b0 (by omega)
      obtain ⟨la1, lb1⟩ := hf b1 (by omega)
      obtain ⟨la2, lb2⟩ := hf b2 (by omega)
      have gg0 : G p0 = f b0 + f b1 % 16 * 256 := by rw [ep0, hG0 r hl]; simp only [eb0, eb1, eb2]
      have gg1 : G p1 = f b1 / 16 + f b2 * 16 := by rw [ep1, hG1 r hl]; simp only [eb0, eb1, eb2]
      generalize hx0 : f b0 = x0 at *
      generalize hx1 : f b1 = x1 at *
      generalize hx2 : f b2 = x2 at *
      generalize hg0 : G p0 = g0 at *
      generalize hg1 : G p1 = g1 at *
      have HX0 := Lib.hid hx0; clear hx0
      have HX1 := Lib.hid hx1; clear hx1
      have HX2 := Lib.hid hx2; clear hx2
      have HG0 := Lib.hid hg0; clear hg0
      have HG1 := Lib.hid hg1; clear hg1
      obtain ⟨y1, y2, y3, hy1, hy2, hy3, fin0⟩ := unpack_any_ar0 x1 x0 g0 ⟨la1, lb1⟩ ⟨la0, lb0⟩ gg0
      obtain ⟨y4, y5, y6, y7, hy4, hy5, hy6, hy7, fin1⟩ := unpack_any_ar1 x1 x2 g1 ⟨la1, lb1⟩ ⟨la2, lb2⟩ gg1
      have wd_i16_x0 : IntKind.i16.wrap x0 = x0 := by rw [wrap_i16']; omega
      have wd_i16_x1 : IntKind.i16.wrap x1 = x1 := by rw [wrap_i16']; omega
      have wd_i16_x2 : IntKind.i16.wrap x2 = x2 := by rw [wrap_i16']; omega
      clear gg0 gg1
      have FIN0 := Lib.hid fin0; clear fin0
      have FIN1 := Lib.hid fin1; clear fin1
      have zp0 : 2 * (r : Int) = (p0 : Int) := by omega
      have up0 : IntKind.i64.wrap (p0 : Int) = (p0 : Int) := by rw [IntKind.wrap_i64]; omega
      have tp0 : (p0 : Int) < 256 := by omega
      have zp1 : (p0 : Int) + 1 = (p1 : Int) := by omega
      have up1 : IntKind.i64.wrap (p1 : Int) = (p1 : Int) := by rw [IntKind.wrap_i64]; omega
      have tp1 : (p1 : Int) < 256 := by omega
      have zb0 : 3 * (r : Int) = (b0 : Int) := by omega
      have ub0 : IntKind.i64.wrap (b0 : Int) = (b0 : Int) := by rw [IntKind.wrap_i64]; omega
      have tb0 : (b0 : Int) < 384 := by omega
      have zb1 : (b0 : Int) + 1 = (b1 : Int) := by omega
      have ub1 : IntKind.i64.wrap (b1 : Int) = (b1 : Int) := by rw [IntKind.wrap_i64]; omega
      have tb1 : (b1 : Int) < 384 := by omega
      have zb2 : (b0 : Int) + 2 = (b2 : Int) := by omega
      have ub2 : IntKind.i64.wrap (b2 : Int) = (b2 : Int) := by rw [IntKind.wrap_i64]; omega
      have tb2 : (b2 : Int) < 384 := by omega
      have np0 : p0 < 256 := by omega
      have np1 : p1 < 256 := by omega
      have nb0 : b0 < 384 := by omega
      have nb1 : b1 < 384 := by omega
      have nb2 : b2 < 384 := by omega
      have Ep0 := Lib.hid ep0; clear ep0
      have Ep1 := Lib.hid ep1; clear ep1
      have Eb0 := Lib.hid eb0; clear eb0
      have Eb1 := Lib.hid eb1; clear eb1
      have Eb2 := Lib.hid eb2; clear eb2
      have ca0 : wr.cell? ⟨bs, b0, none⟩ = some (.int .u8 x0) := (by rw [← HX0.out]; exact (hrow _ hon).2 _ nb0)
      have ca1 : wr.cell? ⟨bs, b1, none⟩ = some (.int .u8 x1) := (by rw [← HX1.out]; exact (hrow _ hon).2 _ nb1)
      have ca2 : wr.cell? ⟨bs, b2, none⟩ = some (.int .u8 x2) := (by rw [← HX2.out]; exact (hrow _ hon).2 _ nb2)
      clear hs hd hf hG0 hG1
      go_wp2_with fail
      go_still_tail 21, (by kernel_rfl)
      refine wpList_storeI info16 (.tmp 29) (.tmp 27) bd p0 .i16 y3 hbk.drew np0 rfl rfl rfl rfl ?_
      intro w1 o1 k1
      have on1 := hon.drew.trans o1
      clear ca0 ca1 ca2
      have ca0 : w1.cell? ⟨bs, b0, none⟩ = some (.int .u8 x0) := (by rw [← HX0.out]; exact (hrow _ on1).2 _ nb0)
      have ca1 : w1.cell? ⟨bs, b1, none⟩ = some (.int .u8 x1) := (by rw [← HX1.out]; exact (hrow _ on1).2 _ nb1)
      have ca2 : w1.cell? ⟨bs, b2, none⟩ = some (.int .u8 x2) := (by rw [← HX2.out]; exact (hrow _ on1).2 _ nb2)
      simp only [Act.put]
      clear hy1 hy2 hy3
      go_wp2_with fail
      go_still_tail 23, (by kernel_rfl)
      refine wpList_storeI info16 (.tmp 52) (.tmp 50) bd p1 .i16 y7 k1.drew np1 rfl rfl rfl rfl ?_
      intro w2 o2 k2
      have on2 := on1.drew.trans o2
      clear ca0 ca1 ca2
      have ca0 : w2.cell? ⟨bs, b0, none⟩ = some (.int .u8 x0) := (by rw [← HX0.out]; exact (hrow _ on2).2 _ nb0)
      have ca1 : w2.cell? ⟨bs, b1, none⟩ = some (.int .u8 x1) := (by rw [← HX1.out]; exact (hrow _ on2).2 _ nb1)
      have ca2 : w2.cell? ⟨bs, b2, none⟩ = some (.int .u8 x2) := (by rw [← HX2.out]; exact (hrow _ on2).2 _ nb2)
      simp only [Act.put]
      clear hy4 hy5 hy6 hy7
      go_wp2_with fail
      go_roundw
      case rel =>
        have ep0 := Ep0.out
        have ep1 := Ep1.out
        have eb0 := Eb0.out
        have eb1 := Eb1.out
        have eb2 := Eb2.out
        refine ⟨r + 1, by omega, by go_num, on2, ?_⟩
        refine k2.congr fun x hx => ?_
        unfold upto ints
        by_cases c1 : x = p1
        · rw [if_pos c1, if_pos (by omega), c1, HG1.out, FIN1.out]
        rw [if_neg c1]
        by_cases c0 : x = p0
        · rw [if_pos c0, if_pos (by omega), c0, HG0.out, FIN0.out]
        rw [if_neg c0]
        by_cases hlt : x < 2 * r
        · rw [if_pos hlt, if_pos (by omega)]
        · rw [if_neg hlt, if_neg (by omega)]
      case measure => simp [intOf]; omega
    · have hr' : r = 128 := by omega
      subst hr'
      rw [show 2 * 128 = 256 by omega, upto_all] at hbk
      go_wp2_with (go_at_call 28; refine (Tangle_any bd _ _ _ hbk).mono ?_; rintro e w' ⟨rfl, oT, kT⟩)
      go_end0
      exact ⟨rfl, hon.trans oT, kT⟩
end Go.Proofs.Ytngmpnkhdjnhoaa
