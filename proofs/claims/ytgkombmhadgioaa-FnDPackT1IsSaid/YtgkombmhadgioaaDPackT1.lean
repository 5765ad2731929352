/- PackT1, UnpackT1 (Dilithium). -/
import Derived.Test.YtgkombmhadgioaaDTab
import Derived.Test.YtgkombmhadgioaaEnc
import Derived.Test.YtgkombmhadgioaaStore
import Derived.Lib.Hide
namespace Go.Proofs.Ytgkombmhadgioaa
open Go Go.Proofs Go.RowKit Go.Kd
set_option linter.unusedSimpArgs false
set_option linter.unusedVariables false
theorem szB : (Try.prog.info? 5).map (·.size) = some 1 := by kernel_rfl
theorem szU : (Try.prog.info? 23).map (·.size) = some 1 := by kernel_rfl
set_option maxRecDepth 100000 in
set_option maxHeartbeats 2000000 in
theorem packT1_any (bs bd : Nat) (w : World) (Td : TypeId) (f G Z : Nat → Int) (hs : RowK w bs 256 .u32 f) (hd : Blk w bd Td (cellsF 320 (ints .u8 Z))) (hne : bs ≠ bd) (hf : ∀ i, i < 256 → 0 ≤ f i ∧ f i ≤ 1023)
    (hG0 : ∀ r, r < 64 → G (5 * r + 0) = f (4 * r + 0) % 256) (hG1 : ∀ r, r < 64 → G (5 * r + 1) = f (4 * r + 0) / 256 + f (4 * r + 1) % 64 * 4) (hG2 : ∀ r, r < 64 → G (5 * r + 2) = f (4 * r + 1) / 64 + f (4 * r + 2) % 16 * 16) (hG3 : ∀ r, r < 64 → G (5 * r + 3) = f (4 * r + 2) / 16 + f (4 * r + 3) % 4 * 64) (hG4 : ∀ r, r < 64 → G (5 * r + 4) = f (4 * r + 3) / 4) :
    Calls Try.prog 57 #[.pointer (some ⟨bs, 0, none⟩), .slice (some ⟨bd, 0, none⟩) 320 320] w fun e w' => e = .returned (.tuple #[]) ∧ Only bd w w' ∧ Blk w' bd Td (cellsF 320 (ints .u8 G)) := by
  go_enter Try.func57, Try.ntmps57
  go_wp2_with fail
  go_loopw [4, 5] (fun x y wr => ∃ r : Nat, r ≤ 64 ∧ x = .int .i64 (4 * r : Nat) ∧ y = .int .i64 (5 * r : Nat) ∧ Only bd w wr ∧ Blk wr bd Td (cellsF 320 (upto (5 * r) (ints .u8 G) (ints .u8 Z)))) (fun _ y _ => 320 - (intOf y).toNat)
  case atStart => exact ⟨0, by omega, rfl, rfl, Only.refl _ _, by rw [upto_zero]; exact hd⟩
  case round =>
    obtain ⟨r, hr, rfl, rfl, hon, hbk⟩ := hrel
    by_cases hl : r < 64
    · have hrow : ∀ w1, Only bd w w1 → RowK w1 bs 256 .u32 f := fun w1 h => hs.only hne h
      obtain ⟨p0, ep0⟩ : ∃ p : Nat, p = 4 * r + 0 := ⟨_, rfl⟩
      obtain ⟨p1, ep1⟩ : ∃ p : Nat, p = 4 * r + 1 := ⟨_, rfl⟩
      obtain ⟨p2, ep2⟩ : ∃ p : Nat, p = 4 * r + 2 := ⟨_, rfl⟩
      obtain ⟨p3, ep3⟩ : ∃ p : Nat, p = 4 * r + 3 := ⟨_, rfl⟩
      obtain ⟨b0, eb0⟩ : ∃ p : Nat, p = 5 * r + 0 := ⟨_, rfl⟩
      obtain ⟨b1, eb1⟩ : ∃ p : Nat, p = 5 * r + 1 := ⟨_, rfl⟩
      obtain ⟨b2, eb2⟩ : ∃ p : Nat, p = 5 * r + 2 := ⟨_, rfl⟩
      obtain ⟨b3, eb3⟩ : ∃ p : Nat, p = 5 * r + 3 := ⟨_, rfl⟩
      obtain ⟨b4, eb4⟩ : ∃ p : Nat, p = 5 * r + 4 := ⟨_, rfl⟩
      obtain ⟨la0, lb0⟩ := hf p0 (by omega)
      obtain ⟨la1, lb1⟩ := hf p1 (by omega)
      obtain ⟨la2, lb2⟩ := hf p2 (by omega)
      obtain ⟨la3, lb3⟩ := hf p3 (by omega)
      have gg0 : G b0 = f p0 % 256 := by rw [eb0, hG0 r hl]; simp only [ep0, ep1, ep2, ep3]
      have gg1 : G b1 = f p0 / 256 + f p1 % 64 * 4 := by rw [eb1, hG1 r hl]; simp only [ep0, ep1, ep2, ep3]
      have gg2 : G b2 = f p1 / 64 + f p2 % 16 * 16 := by rw [eb2, hG2 r hl]; simp only [ep0, ep1, ep2, ep3]
      have gg3 : G b3 = f p2 / 16 + f p3 % 4 * 64 := by rw [eb3, hG3 r hl]; simp only [ep0, ep1, ep2, ep3]
      have gg4 : G b4 = f p3 / 4 := by rw [eb4, hG4 r hl]; simp only [ep0, ep1, ep2, ep3]
      generalize hx0 : f p0 = x0 at *
      generalize hx1 : f p1 = x1 at *
      generalize hx2 : f p2 = x2 at *
      generalize hx3 : f p3 = x3 at *
      generalize hg0 : G b0 = g0 at *
      generalize hg1 : G b1 = g1 at *
      generalize hg2 : G b2 = g2 at *
      generalize hg3 : G b3 = g3 at *
      generalize hg4 : G b4 = g4 at *
      have HX0 := Lib.hid hx0; clear hx0
      have HX1 := Lib.hid hx1; clear hx1
      have HX2 := Lib.hid hx2; clear hx2
      have HX3 := Lib.hid hx3; clear hx3
      have HG0 := Lib.hid hg0; clear hg0
      have HG1 := Lib.hid hg1; clear hg1
      have HG2 := Lib.hid hg2; clear hg2
      have HG3 := Lib.hid hg3; clear hg3
      have HG4 := Lib.hid hg4; clear hg4
      obtain ⟨y1, hy1⟩ : ∃ y, IntKind.u8.wrap x0 = y := ⟨_, rfl⟩
      have my1 : y1 = (x0) % 256 := by rw [← hy1, IntKind.wrap_u8]
      have fin0 : y1 = g0 := by rw [gg0]; omega
      obtain ⟨y2, hy2⟩ : ∃ y, x0 / 256 = y := ⟨_, rfl⟩
      have my2 : y2 = x0 / 256 := hy2.symm
      obtain ⟨y3, hy3⟩ : ∃ y, IntKind.u8.wrap y2 = y := ⟨_, rfl⟩
      have my3 : y3 = (y2) % 256 := by rw [← hy3, IntKind.wrap_u8]
      obtain ⟨y4, hy4⟩ : ∃ y, IntKind.u32.wrap (x1 * 4) = y := ⟨_, rfl⟩
      have my4 : y4 = (x1 * 4) % 4294967296 := by rw [← hy4, IntKind.wrap_u32]
      obtain ⟨y5, hy5⟩ : ∃ y, IntKind.u8.wrap y4 = y := ⟨_, rfl⟩
      have my5 : y5 = (y4) % 256 := by rw [← hy5, IntKind.wrap_u8]
      obtain ⟨y6, hy6⟩ : ∃ y, bits .or .u8 y3 y5 = y := ⟨_, rfl⟩
      have my6 : y6 = y3 + y5 := by rw [← hy6]; exact or_u8 y3 y5 2 (y5 / 4) (by omega) (by omega) (by omega) (by omega) (by omega)
      have fin1 : y6 = g1 := by rw [gg1]; omega
      obtain ⟨y7, hy7⟩ : ∃ y, x1 / 64 = y := ⟨_, rfl⟩
      have my7 : y7 = x1 / 64 := hy7.symm
      obtain ⟨y8, hy8⟩ : ∃ y, IntKind.u8.wrap y7 = y := ⟨_, rfl⟩
      have my8 : y8 = (y7) % 256 := by rw [← hy8, IntKind.wrap_u8]
      obtain ⟨y9, hy9⟩ : ∃ y, IntKind.u32.wrap (x2 * 16) = y := ⟨_, rfl⟩
      have my9 : y9 = (x2 * 16) % 4294967296 := by rw [← hy9, IntKind.wrap_u32]
      obtain ⟨y10, hy10⟩ : ∃ y, IntKind.u8.wrap y9 = y := ⟨_, rfl⟩
      have my10 : y10 = (y9) % 256 := by rw [← hy10, IntKind.wrap_u8]
      obtain ⟨y11, hy11⟩ : ∃ y, bits .or .u8 y8 y10 = y := ⟨_, rfl⟩
      have my11 : y11 = y8 + y10 := by rw [← hy11]; exact or_u8 y8 y10 4 (y10 / 16) (by omega) (by omega) (by omega) (by omega) (by omega)
      have fin2 : y11 = g2 := by rw [gg2]; omega
      obtain ⟨y12, hy12⟩ : ∃ y, x2 / 16 = y := ⟨_, rfl⟩
      have my12 : y12 = x2 / 16 := hy12.symm
      obtain ⟨y13, hy13⟩ : ∃ y, IntKind.u8.wrap y12 = y := ⟨_, rfl⟩
      have my13 : y13 = (y12) % 256 := by rw [← hy13, IntKind.wrap_u8]
      obtain ⟨y14, hy14⟩ : ∃ y, IntKind.u32.wrap (x3 * 64) = y := ⟨_, rfl⟩
      have my14 : y14 = (x3 * 64) % 4294967296 := by rw [← hy14, IntKind.wrap_u32]
      obtain ⟨y15, hy15⟩ : ∃ y, IntKind.u8.wrap y14 = y := ⟨_, rfl⟩
      have my15 : y15 = (y14) % 256 := by rw [← hy15, IntKind.wrap_u8]
      obtain ⟨y16, hy16⟩ : ∃ y, bits .or .u8 y13 y15 = y := ⟨_, rfl⟩
      have my16 : y16 = y13 + y15 := by rw [← hy16]; exact or_u8 y13 y15 6 (y15 / 64) (by omega) (by omega) (by omega) (by omega) (by omega)
      have fin3 : y16 = g3 := by rw [gg3]; omega
      obtain ⟨y17, hy17⟩ : ∃ y, x3 / 4 = y := ⟨_, rfl⟩
      have my17 : y17 = x3 / 4 := hy17.symm
      obtain ⟨y18, hy18⟩ : ∃ y, IntKind.u8.wrap y17 = y := ⟨_, rfl⟩
      have my18 : y18 = (y17) % 256 := by rw [← hy18, IntKind.wrap_u8]
      have fin4 : y18 = g4 := by rw [gg4]; omega
      clear gg0 gg1 gg2 gg3 gg4
      have FIN0 := Lib.hid fin0; clear fin0
      have FIN1 := Lib.hid fin1; clear fin1
      have FIN2 := Lib.hid fin2; clear fin2
      have FIN3 := Lib.hid fin3; clear fin3
      have FIN4 := Lib.hid fin4; clear fin4
      replace my1 := my1.symm
      clear my2
      replace my3 := my3.symm
      replace my4 := my4.symm
      replace my5 := my5.symm
      clear my6
      clear my7
      replace my8 := my8.symm
      replace my9 := my9.symm
      replace my10 := my10.symm
      clear my11
      clear my12
      replace my13 := my13.symm
      replace my14 := my14.symm
      replace my15 := my15.symm
      clear my16
      clear my17
      replace my18 := my18.symm
      have zp0 : 4 * (r : Int) = (p0 : Int) := by omega
      have tp0 : (p0 : Int) < 256 := by omega
      have zp1 : (p0 : Int) + 1 = (p1 : Int) := by omega
      have up1 : IntKind.i64.wrap (p1 : Int) = (p1 : Int) := by rw [IntKind.wrap_i64]; omega
      have tp1 : (p1 : Int) < 256 := by omega
      have zp2 : (p0 : Int) + 2 = (p2 : Int) := by omega
      have up2 : IntKind.i64.wrap (p2 : Int) = (p2 : Int) := by rw [IntKind.wrap_i64]; omega
      have tp2 : (p2 : Int) < 256 := by omega
      have zp3 : (p0 : Int) + 3 = (p3 : Int) := by omega
      have up3 : IntKind.i64.wrap (p3 : Int) = (p3 : Int) := by rw [IntKind.wrap_i64]; omega
      have tp3 : (p3 : Int) < 256 := by omega
      have zb0 : 5 * (r : Int) = (b0 : Int) := by omega
      have tb0 : (b0 : Int) < 320 := by omega
      have zb1 : (b0 : Int) + 1 = (b1 : Int) := by omega
      have ub1 : IntKind.i64.wrap (b1 : Int) = (b1 : Int) := by rw [IntKind.wrap_i64]; omega
      have tb1 : (b1 : Int) < 320 := by omega
      have zb2 : (b0 : Int) + 2 = (b2 : Int) := by omega
      have ub2 : IntKind.i64.wrap (b2 : Int) = (b2 : Int) := by rw [IntKind.wrap_i64]; omega
      have tb2 : (b2 : Int) < 320 := by omega
      have zb3 : (b0 : Int) + 3 = (b3 : Int) := by omega
      have ub3 : IntKind.i64.wrap (b3 : Int) = (b3 : Int) := by rw [IntKind.wrap_i64]; omega
      have tb3 : (b3 : Int) < 320 := by omega
      have zb4 : (b0 : Int) + 4 = (b4 : Int) := by omega
      have ub4 : IntKind.i64.wrap (b4 : Int) = (b4 : Int) := by rw [IntKind.wrap_i64]; omega
      have tb4 : (b4 : Int) < 320 := by omega
      have nb0 : b0 < 320 := by omega
      have nb1 : b1 < 320 := by omega
      have nb2 : b2 < 320 := by omega
      have nb3 : b3 < 320 := by omega
      have nb4 : b4 < 320 := by omega
      have np0 : p0 < 256 := by omega
      have np1 : p1 < 256 := by omega
      have np2 : p2 < 256 := by omega
      have np3 : p3 < 256 := by omega
      have Ep0 := Lib.hid ep0; clear ep0
      have Ep1 := Lib.hid ep1; clear ep1
      have Ep2 := Lib.hid ep2; clear ep2
      have Ep3 := Lib.hid ep3; clear ep3
      have Eb0 := Lib.hid eb0; clear eb0
      have Eb1 := Lib.hid eb1; clear eb1
      have Eb2 := Lib.hid eb2; clear eb2
      have Eb3 := Lib.hid eb3; clear eb3
      have Eb4 := Lib.hid eb4; clear eb4
      have ca0 : wr.cell? ⟨bs, p0, none⟩ = some (.int .u32 x0) := by rw [← HX0.out]; exact (hrow _ hon).2 _ np0
      have ca1 : wr.cell? ⟨bs, p1, none⟩ = some (.int .u32 x1) := by rw [← HX1.out]; exact (hrow _ hon).2 _ np1
      have ca2 : wr.cell? ⟨bs, p2, none⟩ = some (.int .u32 x2) := by rw [← HX2.out]; exact (hrow _ hon).2 _ np2
      have ca3 : wr.cell? ⟨bs, p3, none⟩ = some (.int .u32 x3) := by rw [← HX3.out]; exact (hrow _ hon).2 _ np3
      clear hs hd hf hG0 hG1 hG2 hG3 hG4
      have cc : wr.cell? ⟨bd, b0, none⟩ = _ := hbk.cell nb0
      have fp := hbk.frozen b0
      go_wp2_with fail
      have o1 : Only bd wr (wr.setCell ⟨bd, b0, none⟩ (Value.int .u8 y1)) := Only.setCell (Only.refl bd wr) _
      have k1 := hbk.setCell b0 (Value.int .u8 y1)
      generalize wr.setCell ⟨bd, b0, none⟩ (Value.int .u8 y1) = w1 at o1 k1 ⊢
      have on1 := hon.trans o1
      clear cc fp ca0 ca1 ca2 ca3
      have ca0 : w1.cell? ⟨bs, p0, none⟩ = some (.int .u32 x0) := by rw [← HX0.out]; exact (hrow _ on1).2 _ np0
      have ca1 : w1.cell? ⟨bs, p1, none⟩ = some (.int .u32 x1) := by rw [← HX1.out]; exact (hrow _ on1).2 _ np1
      have ca2 : w1.cell? ⟨bs, p2, none⟩ = some (.int .u32 x2) := by rw [← HX2.out]; exact (hrow _ on1).2 _ np2
      have ca3 : w1.cell? ⟨bs, p3, none⟩ = some (.int .u32 x3) := by rw [← HX3.out]; exact (hrow _ on1).2 _ np3
      go_still_tail 20, (by kernel_rfl)
      refine wpList_storeI szB (.tmp 38) (.tmp 37) bd b1 .u8 y6 k1.drew nb1 rfl rfl rfl rfl ?_
      intro w2 o2 k2
      have on2 := on1.drew.trans o2
      clear ca0 ca1 ca2 ca3
      have ca0 : w2.cell? ⟨bs, p0, none⟩ = some (.int .u32 x0) := by rw [← HX0.out]; exact (hrow _ on2).2 _ np0
      have ca1 : w2.cell? ⟨bs, p1, none⟩ = some (.int .u32 x1) := by rw [← HX1.out]; exact (hrow _ on2).2 _ np1
      have ca2 : w2.cell? ⟨bs, p2, none⟩ = some (.int .u32 x2) := by rw [← HX2.out]; exact (hrow _ on2).2 _ np2
      have ca3 : w2.cell? ⟨bs, p3, none⟩ = some (.int .u32 x3) := by rw [← HX3.out]; exact (hrow _ on2).2 _ np3
      simp only [Act.put]
      go_wp2_with fail
      go_still_tail 21, (by kernel_rfl)
      refine wpList_storeI szB (.tmp 59) (.tmp 58) bd b2 .u8 y11 k2.drew nb2 rfl rfl rfl rfl ?_
      intro w3 o3 k3
      have on3 := on2.drew.trans o3
      clear ca0 ca1 ca2 ca3
      have ca0 : w3.cell? ⟨bs, p0, none⟩ = some (.int .u32 x0) := by rw [← HX0.out]; exact (hrow _ on3).2 _ np0
      have ca1 : w3.cell? ⟨bs, p1, none⟩ = some (.int .u32 x1) := by rw [← HX1.out]; exact (hrow _ on3).2 _ np1
      have ca2 : w3.cell? ⟨bs, p2, none⟩ = some (.int .u32 x2) := by rw [← HX2.out]; exact (hrow _ on3).2 _ np2
      have ca3 : w3.cell? ⟨bs, p3, none⟩ = some (.int .u32 x3) := by rw [← HX3.out]; exact (hrow _ on3).2 _ np3
      simp only [Act.put]
      go_wp2_with fail
      go_still_tail 21, (by kernel_rfl)
      refine wpList_storeI szB (.tmp 80) (.tmp 79) bd b3 .u8 y16 k3.drew nb3 rfl rfl rfl rfl ?_
      intro w4 o4 k4
      have on4 := on3.drew.trans o4
      clear ca0 ca1 ca2 ca3
      have ca0 : w4.cell? ⟨bs, p0, none⟩ = some (.int .u32 x0) := by rw [← HX0.out]; exact (hrow _ on4).2 _ np0
      have ca1 : w4.cell? ⟨bs, p1, none⟩ = some (.int .u32 x1) := by rw [← HX1.out]; exact (hrow _ on4).2 _ np1
      have ca2 : w4.cell? ⟨bs, p2, none⟩ = some (.int .u32 x2) := by rw [← HX2.out]; exact (hrow _ on4).2 _ np2
      have ca3 : w4.cell? ⟨bs, p3, none⟩ = some (.int .u32 x3) := by rw [← HX3.out]; exact (hrow _ on4).2 _ np3
      simp only [Act.put]
      have cc : w4.cell? ⟨bd, b4, none⟩ = _ := k4.cell nb4
      have fp := k4.frozen b4
      go_wp2_with fail
      have o5 : Only bd w4 (w4.setCell ⟨bd, b4, none⟩ (Value.int .u8 y18)) := Only.setCell (Only.refl bd w4) _
      have k5 := k4.setCell b4 (Value.int .u8 y18)
      generalize w4.setCell ⟨bd, b4, none⟩ (Value.int .u8 y18) = w5 at o5 k5 ⊢
      have on5 := on4.trans o5
      clear cc fp ca0 ca1 ca2 ca3
      have ca0 : w5.cell? ⟨bs, p0, none⟩ = some (.int .u32 x0) := by rw [← HX0.out]; exact (hrow _ on5).2 _ np0
      have ca1 : w5.cell? ⟨bs, p1, none⟩ = some (.int .u32 x1) := by rw [← HX1.out]; exact (hrow _ on5).2 _ np1
      have ca2 : w5.cell? ⟨bs, p2, none⟩ = some (.int .u32 x2) := by rw [← HX2.out]; exact (hrow _ on5).2 _ np2
      have ca3 : w5.cell? ⟨bs, p3, none⟩ = some (.int .u32 x3) := by rw [← HX3.out]; exact (hrow _ on5).2 _ np3
      go_roundw
      case rel =>
        have ep0 := Ep0.out
        have ep1 := Ep1.out
        have ep2 := Ep2.out
        have ep3 := Ep3.out
        have eb0 := Eb0.out
        have eb1 := Eb1.out
        have eb2 := Eb2.out
        have eb3 := Eb3.out
        have eb4 := Eb4.out
        refine ⟨r + 1, by omega, by go_num, by go_num, on5, ?_⟩
        refine k5.congr fun x hx => ?_
        unfold upto ints
        by_cases c4 : x = b4
        · rw [if_pos c4, if_pos (by omega), c4, HG4.out, FIN4.out]
        rw [if_neg c4]
        by_cases c3 : x = b3
        · rw [if_pos c3, if_pos (by omega), c3, HG3.out, FIN3.out]
        rw [if_neg c3]
        by_cases c2 : x = b2
        · rw [if_pos c2, if_pos (by omega), c2, HG2.out, FIN2.out]
        rw [if_neg c2]
        by_cases c1 : x = b1
        · rw [if_pos c1, if_pos (by omega), c1, HG1.out, FIN1.out]
        rw [if_neg c1]
        by_cases c0 : x = b0
        · rw [if_pos c0, if_pos (by omega), c0, HG0.out, FIN0.out]
        rw [if_neg c0]
        by_cases hlt : x < 5 * r
        · rw [if_pos hlt, if_pos (by omega)]
        · rw [if_neg hlt, if_neg (by omega)]
      case measure => simp [intOf]; omega
    · have hr' : r = 64 := by omega
      subst hr'
      go_wp2_with fail
      go_end0
      exact ⟨rfl, hon, by rw [show 5 * 64 = 320 by omega, upto_all] at hbk; exact hbk⟩
set_option maxRecDepth 100000 in
set_option maxHeartbeats 2000000 in
theorem unpackT1_any (bs bd cp : Nat) (w : World) (Td : TypeId) (f G Z : Nat → Int) (hs : RowK w bs 320 .u8 f) (hd : Blk w bd Td (cellsF 256 (ints .u32 Z))) (hne : bs ≠ bd) (hf : ∀ i, i < 320 → 0 ≤ f i ∧ f i ≤ 255)
    (hG0 : ∀ r, r < 64 → G (4 * r + 0) = f (5 * r + 0) + f (5 * r + 1) % 4 * 256) (hG1 : ∀ r, r < 64 → G (4 * r + 1) = f (5 * r + 1) / 4 + f (5 * r + 2) % 16 * 64) (hG2 : ∀ r, r < 64 → G (4 * r + 2) = f (5 * r + 2) / 16 + f (5 * r + 3) % 64 * 16) (hG3 : ∀ r, r < 64 → G (4 * r + 3) = f (5 * r + 3) / 64 + f (5 * r + 4) * 4) :
    Calls Try.prog 58 #[.pointer (some ⟨bd, 0, none⟩), .slice (some ⟨bs, 0, none⟩) 320 cp] w fun e w' => e = .returned (.tuple #[]) ∧ Only bd w w' ∧ Blk w' bd Td (cellsF 256 (ints .u32 G)) := by
  go_enter Try.func58, Try.ntmps58
  go_wp2_with fail
  go_loopw [4, 5] (fun x y wr => ∃ r : Nat, r ≤ 64 ∧ x = .int .i64 (4 * r : Nat) ∧ y = .int .i64 (5 * r : Nat) ∧ Only bd w wr ∧ Blk wr bd Td (cellsF 256 (upto (4 * r) (ints .u32 G) (ints .u32 Z)))) (fun _ y _ => 320 - (intOf y).toNat)
  case atStart => exact ⟨0, by omega, rfl, rfl, Only.refl _ _, by rw [upto_zero]; exact hd⟩
  case round =>
    obtain ⟨r, hr, rfl, rfl, hon, hbk⟩ := hrel
    by_cases hl : r < 64
    · have hrow : ∀ w1, Only bd w w1 → RowK w1 bs 320 .u8 f := fun w1 h => hs.only hne h
      obtain ⟨p0, ep0⟩ : ∃ p : Nat, p = 4 * r + 0 := ⟨_, rfl⟩
      obtain ⟨p1, ep1⟩ : ∃ p : Nat, p = 4 * r + 1 := ⟨_, rfl⟩
      obtain ⟨p2, ep2⟩ : ∃ p : Nat, p = 4 * r + 2 := ⟨_, rfl⟩
      obtain ⟨p3, ep3⟩ : ∃ p : Nat, p = 4 * r + 3 := ⟨_, rfl⟩
      obtain ⟨b0, eb0⟩ : ∃ p : Nat, p = 5 * r + 0 := ⟨_, rfl⟩
      obtain ⟨b1, eb1⟩ : ∃ p : Nat, p = 5 * r + 1 := ⟨_, rfl⟩
      obtain ⟨b2, eb2⟩ : ∃ p : Nat, p = 5 * r + 2 := ⟨_, rfl⟩
      obtain ⟨b3, eb3⟩ : ∃ p : Nat, p = 5 * r + 3 := ⟨_, rfl⟩
      obtain ⟨b4, eb4⟩ : ∃ p : Nat, p = 5 * r + 4 := ⟨_, rfl⟩
      obtain ⟨la0, lb0⟩ := hf b0 (by omega)
      obtain ⟨la1, lb1⟩ := hf b1 (by omega)
      obtain ⟨la2, lb2⟩ := hf b2 (by omega)
      obtain ⟨la3, lb3⟩ := hf b3 (by omega)
      obtain ⟨la4, lb4⟩ := hf b4 (by omega)
      have gg0 : G p0 = f b0 + f b1 % 4 * 256 := by rw [ep0, hG0 r hl]; simp only [eb0, eb1, eb2, eb3, eb4]
      have gg1 : G p1 = f b1 / 4 + f b2 % 16 * 64 := by rw [ep1, hG1 r hl]; simp only [eb0, eb1, eb2, eb3, eb4]
      have gg2 : G p2 = f b2 / 16 + f b3 % 64 * 16 := by rw [ep2, hG2 r hl]; simp only [eb0, eb1, eb2, eb3, eb4]
      have gg3 : G p3 = f b3 / 64 + f b4 * 4 := by rw [ep3, hG3 r hl]; simp only [eb0, eb1, eb2, eb3, eb4]
      generalize hx0 : f b0 = x0 at *
      generalize hx1 : f b1 = x1 at *
      generalize hx2 : f b2 = x2 at *
      generalize hx3 : f b3 = x3 at *
      generalize hx4 : f b4 = x4 at *
      generalize hg0 : G p0 = g0 at *
      generalize hg1 : G p1 = g1 at *
      generalize hg2 : G p2 = g2 at *
      generalize hg3 : G p3 = g3 at *
      have HX0 := Lib.hid hx0; clear hx0
      have HX1 := Lib.hid hx1; clear hx1
      have HX2 := Lib.hid hx2; clear hx2
      have HX3 := Lib.hid hx3; clear hx3
      have HX4 := Lib.hid hx4; clear hx4
      have HG0 := Lib.hid hg0; clear hg0
      have HG1 := Lib.hid hg1; clear hg1
      have HG2 := Lib.hid hg2; clear hg2
      have HG3 := Lib.hid hg3; clear hg3
      obtain ⟨y1, hy1⟩ : ∃ y, IntKind.u32.wrap x0 = y := ⟨_, rfl⟩
      have my1 : y1 = (x0) % 4294967296 := by rw [← hy1, IntKind.wrap_u32]
      obtain ⟨y2, hy2⟩ : ∃ y, IntKind.u32.wrap x1 = y := ⟨_, rfl⟩
      have my2 : y2 = (x1) % 4294967296 := by rw [← hy2, IntKind.wrap_u32]
      obtain ⟨y3, hy3⟩ : ∃ y, IntKind.u32.wrap (y2 * 256) = y := ⟨_, rfl⟩
      have my3 : y3 = (y2 * 256) % 4294967296 := by rw [← hy3, IntKind.wrap_u32]
      obtain ⟨y4, hy4⟩ : ∃ y, bits .or .u32 y1 y3 = y := ⟨_, rfl⟩
      have my4 : y4 = y1 + y3 := by rw [← hy4]; exact or_u32 y1 y3 8 (y3 / 256) (by omega) (by omega) (by omega) (by omega) (by omega)
      obtain ⟨y5, hy5⟩ : ∃ y, bits .and .u32 y4 1023 = y := ⟨_, rfl⟩
      have my5 : y5 = y4 % 1024 := by rw [← hy5]; exact and_u32 y4 10 _ (by omega) (by decide) (by decide)
      have fin0 : y5 = g0 := by rw [gg0]; omega
      obtain ⟨y6, hy6⟩ : ∃ y, x1 / 4 = y := ⟨_, rfl⟩
      have my6 : y6 = x1 / 4 := hy6.symm
      obtain ⟨y7, hy7⟩ : ∃ y, IntKind.u32.wrap y6 = y := ⟨_, rfl⟩
      have my7 : y7 = (y6) % 4294967296 := by rw [← hy7, IntKind.wrap_u32]
      obtain ⟨y8, hy8⟩ : ∃ y, IntKind.u32.wrap x2 = y := ⟨_, rfl⟩
      have my8 : y8 = (x2) % 4294967296 := by rw [← hy8, IntKind.wrap_u32]
      obtain ⟨y9, hy9⟩ : ∃ y, IntKind.u32.wrap (y8 * 64) = y := ⟨_, rfl⟩
      have my9 : y9 = (y8 * 64) % 4294967296 := by rw [← hy9, IntKind.wrap_u32]
      obtain ⟨y10, hy10⟩ : ∃ y, bits .or .u32 y7 y9 = y := ⟨_, rfl⟩
      have my10 : y10 = y7 + y9 := by rw [← hy10]; exact or_u32 y7 y9 6 (y9 / 64) (by omega) (by omega) (by omega) (by omega) (by omega)
      obtain ⟨y11, hy11⟩ : ∃ y, bits .and .u32 y10 1023 = y := ⟨_, rfl⟩
      have my11 : y11 = y10 % 1024 := by rw [← hy11]; exact and_u32 y10 10 _ (by omega) (by decide) (by decide)
      have fin1 : y11 = g1 := by rw [gg1]; omega
      obtain ⟨y12, hy12⟩ : ∃ y, x2 / 16 = y := ⟨_, rfl⟩
      have my12 : y12 = x2 / 16 := hy12.symm
      obtain ⟨y13, hy13⟩ : ∃ y, IntKind.u32.wrap y12 = y := ⟨_, rfl⟩
      have my13 : y13 = (y12) % 4294967296 := by rw [← hy13, IntKind.wrap_u32]
      obtain ⟨y14, hy14⟩ : ∃ y, IntKind.u32.wrap x3 = y := ⟨_, rfl⟩
      have my14 : y14 = (x3) % 4294967296 := by rw [← hy14, IntKind.wrap_u32]
      obtain ⟨y15, hy15⟩ : ∃ y, IntKind.u32.wrap (y14 * 16) = y := ⟨_, rfl⟩
      have my15 : y15 = (y14 * 16) % 4294967296 := by rw [← hy15, IntKind.wrap_u32]
      obtain ⟨y16, hy16⟩ : ∃ y, bits .or .u32 y13 y15 = y := ⟨_, rfl⟩
      have my16 : y16 = y13 + y15 := by rw [← hy16]; exact or_u32 y13 y15 4 (y15 / 16) (by omega) (by omega) (by omega) (by omega) (by omega)
      obtain ⟨y17, hy17⟩ : ∃ y, bits .and .u32 y16 1023 = y := ⟨_, rfl⟩
      have my17 : y17 = y16 % 1024 := by rw [← hy17]; exact and_u32 y16 10 _ (by omega) (by decide) (by decide)
      have fin2 : y17 = g2 := by rw [gg2]; omega
      obtain ⟨y18, hy18⟩ : ∃ y, x3 / 64 = y := ⟨_, rfl⟩
      have my18 : y18 = x3 / 64 := hy18.symm
      obtain ⟨y19, hy19⟩ : ∃ y, IntKind.u32.wrap y18 = y := ⟨_, rfl⟩
      have my19 : y19 = (y18) % 4294967296 := by rw [← hy19, IntKind.wrap_u32]
      obtain ⟨y20, hy20⟩ : ∃ y, IntKind.u32.wrap x4 = y := ⟨_, rfl⟩
      have my20 : y20 = (x4) % 4294967296 := by rw [← hy20, IntKind.wrap_u32]
      obtain ⟨y21, hy21⟩ : ∃ y, IntKind.u32.wrap (y20 * 4) = y := ⟨_, rfl⟩
      have my21 : y21 = (y20 * 4) % 4294967296 := by rw [← hy21, IntKind.wrap_u32]
      obtain ⟨y22, hy22⟩ : ∃ y, bits .or .u32 y19 y21 = y := ⟨_, rfl⟩
      have my22 : y22 = y19 + y21 := by rw [← hy22]; exact or_u32 y19 y21 2 (y21 / 4) (by omega) (by omega) (by omega) (by omega) (by omega)
      obtain ⟨y23, hy23⟩ : ∃ y, bits .and .u32 y22 1023 = y := ⟨_, rfl⟩
      have my23 : y23 = y22 % 1024 := by rw [← hy23]; exact and_u32 y22 10 _ (by omega) (by decide) (by decide)
      have fin3 : y23 = g3 := by rw [gg3]; omega
      clear gg0 gg1 gg2 gg3
      have FIN0 := Lib.hid fin0; clear fin0
      have FIN1 := Lib.hid fin1; clear fin1
      have FIN2 := Lib.hid fin2; clear fin2
      have FIN3 := Lib.hid fin3; clear fin3
      replace my1 := my1.symm
      replace my2 := my2.symm
      replace my3 := my3.symm
      clear my4
      clear my5
      clear my6
      replace my7 := my7.symm
      replace my8 := my8.symm
      replace my9 := my9.symm
      clear my10
      clear my11
      clear my12
      replace my13 := my13.symm
      replace my14 := my14.symm
      replace my15 := my15.symm
      clear my16
      clear my17
      clear my18
      replace my19 := my19.symm
      replace my20 := my20.symm
      replace my21 := my21.symm
      clear my22
      clear my23
      have zp0 : 4 * (r : Int) = (p0 : Int) := by omega
      have tp0 : (p0 : Int) < 256 := by omega
      have zp1 : (p0 : Int) + 1 = (p1 : Int) := by omega
      have up1 : IntKind.i64.wrap (p1 : Int) = (p1 : Int) := by rw [IntKind.wrap_i64]; omega
      have tp1 : (p1 : Int) < 256 := by omega
      have zp2 : (p0 : Int) + 2 = (p2 : Int) := by omega
      have up2 : IntKind.i64.wrap (p2 : Int) = (p2 : Int) := by rw [IntKind.wrap_i64]; omega
      have tp2 : (p2 : Int) < 256 := by omega
      have zp3 : (p0 : Int) + 3 = (p3 : Int) := by omega
      have up3 : IntKind.i64.wrap (p3 : Int) = (p3 : Int) := by rw [IntKind.wrap_i64]; omega
      have tp3 : (p3 : Int) < 256 := by omega
      have zb0 : 5 * (r : Int) = (b0 : Int) := by omega
      have tb0 : (b0 : Int) < 320 := by omega
      have zb1 : (b0 : Int) + 1 = (b1 : Int) := by omega
      have ub1 : IntKind.i64.wrap (b1 : Int) = (b1 : Int) := by rw [IntKind.wrap_i64]; omega
      have tb1 : (b1 : Int) < 320 := by omega
      have zb2 : (b0 : Int) + 2 = (b2 : Int) := by omega
      have ub2 : IntKind.i64.wrap (b2 : Int) = (b2 : Int) := by rw [IntKind.wrap_i64]; omega
      have tb2 : (b2 : Int) < 320 := by omega
      have zb3 : (b0 : Int) + 3 = (b3 : Int) := by omega
      have ub3 : IntKind.i64.wrap (b3 : Int) = (b3 : Int) := by rw [IntKind.wrap_i64]; omega
      have tb3 : (b3 : Int) < 320 := by omega
      have zb4 : (b0 : Int) + 4 = (b4 : Int) := by omega
      have ub4 : IntKind.i64.wrap (b4 : Int) = (b4 : Int) := by rw [IntKind.wrap_i64]; omega
      have tb4 : (b4 : Int) < 320 := by omega
      have np0 : p0 < 256 := by omega
      have np1 : p1 < 256 := by omega
      have np2 : p2 < 256 := by omega
      have np3 : p3 < 256 := by omega
      have nb0 : b0 < 320 := by omega
      have nb1 : b1 < 320 := by omega
      have nb2 : b2 < 320 := by omega
      have nb3 : b3 < 320 := by omega
      have nb4 : b4 < 320 := by omega
      have Ep0 := Lib.hid ep0; clear ep0
      have Ep1 := Lib.hid ep1; clear ep1
      have Ep2 := Lib.hid ep2; clear ep2
      have Ep3 := Lib.hid ep3; clear ep3
      have Eb0 := Lib.hid eb0; clear eb0
      have Eb1 := Lib.hid eb1; clear eb1
      have Eb2 := Lib.hid eb2; clear eb2
      have Eb3 := Lib.hid eb3; clear eb3
      have Eb4 := Lib.hid eb4; clear eb4
      have ca0 : wr.cell? ⟨bs, b0, none⟩ = some (.int .u8 x0) := by rw [← HX0.out]; exact (hrow _ hon).2 _ nb0
      have ca1 : wr.cell? ⟨bs, b1, none⟩ = some (.int .u8 x1) := by rw [← HX1.out]; exact (hrow _ hon).2 _ nb1
      have ca2 : wr.cell? ⟨bs, b2, none⟩ = some (.int .u8 x2) := by rw [← HX2.out]; exact (hrow _ hon).2 _ nb2
      have ca3 : wr.cell? ⟨bs, b3, none⟩ = some (.int .u8 x3) := by rw [← HX3.out]; exact (hrow _ hon).2 _ nb3
      have ca4 : wr.cell? ⟨bs, b4, none⟩ = some (.int .u8 x4) := by rw [← HX4.out]; exact (hrow _ hon).2 _ nb4
      clear hs hd hf hG0 hG1 hG2 hG3
      go_wp2_with fail
      go_still_tail 18, (by kernel_rfl)
      refine wpList_storeI szU (.tmp 27) (.tmp 25) bd p0 .u32 y5 hbk.drew np0 rfl rfl rfl rfl ?_
      intro w1 o1 k1
      have on1 := hon.drew.trans o1
      clear ca0 ca1 ca2 ca3 ca4
      have ca0 : w1.cell? ⟨bs, b0, none⟩ = some (.int .u8 x0) := by rw [← HX0.out]; exact (hrow _ on1).2 _ nb0
      have ca1 : w1.cell? ⟨bs, b1, none⟩ = some (.int .u8 x1) := by rw [← HX1.out]; exact (hrow _ on1).2 _ nb1
      have ca2 : w1.cell? ⟨bs, b2, none⟩ = some (.int .u8 x2) := by rw [← HX2.out]; exact (hrow _ on1).2 _ nb2
      have ca3 : w1.cell? ⟨bs, b3, none⟩ = some (.int .u8 x3) := by rw [← HX3.out]; exact (hrow _ on1).2 _ nb3
      have ca4 : w1.cell? ⟨bs, b4, none⟩ = some (.int .u8 x4) := by rw [← HX4.out]; exact (hrow _ on1).2 _ nb4
      simp only [Act.put]
      go_wp2_with fail
      go_still_tail 21, (by kernel_rfl)
      refine wpList_storeI szU (.tmp 48) (.tmp 46) bd p1 .u32 y11 k1.drew np1 rfl rfl rfl rfl ?_
      intro w2 o2 k2
      have on2 := on1.drew.trans o2
      clear ca0 ca1 ca2 ca3 ca4
      have ca0 : w2.cell? ⟨bs, b0, none⟩ = some (.int .u8 x0) := by rw [← HX0.out]; exact (hrow _ on2).2 _ nb0
      have ca1 : w2.cell? ⟨bs, b1, none⟩ = some (.int .u8 x1) := by rw [← HX1.out]; exact (hrow _ on2).2 _ nb1
      have ca2 : w2.cell? ⟨bs, b2, none⟩ = some (.int .u8 x2) := by rw [← HX2.out]; exact (hrow _ on2).2 _ nb2
      have ca3 : w2.cell? ⟨bs, b3, none⟩ = some (.int .u8 x3) := by rw [← HX3.out]; exact (hrow _ on2).2 _ nb3
      have ca4 : w2.cell? ⟨bs, b4, none⟩ = some (.int .u8 x4) := by rw [← HX4.out]; exact (hrow _ on2).2 _ nb4
      simp only [Act.put]
      go_wp2_with fail
      go_still_tail 21, (by kernel_rfl)
      refine wpList_storeI szU (.tmp 69) (.tmp 67) bd p2 .u32 y17 k2.drew np2 rfl rfl rfl rfl ?_
      intro w3 o3 k3
      have on3 := on2.drew.trans o3
      clear ca0 ca1 ca2 ca3 ca4
      have ca0 : w3.cell? ⟨bs, b0, none⟩ = some (.int .u8 x0) := by rw [← HX0.out]; exact (hrow _ on3).2 _ nb0
      have ca1 : w3.cell? ⟨bs, b1, none⟩ = some (.int .u8 x1) := by rw [← HX1.out]; exact (hrow _ on3).2 _ nb1
      have ca2 : w3.cell? ⟨bs, b2, none⟩ = some (.int .u8 x2) := by rw [← HX2.out]; exact (hrow _ on3).2 _ nb2
      have ca3 : w3.cell? ⟨bs, b3, none⟩ = some (.int .u8 x3) := by rw [← HX3.out]; exact (hrow _ on3).2 _ nb3
      have ca4 : w3.cell? ⟨bs, b4, none⟩ = some (.int .u8 x4) := by rw [← HX4.out]; exact (hrow _ on3).2 _ nb4
      simp only [Act.put]
      go_wp2_with fail
      go_still_tail 21, (by kernel_rfl)
      refine wpList_storeI szU (.tmp 90) (.tmp 88) bd p3 .u32 y23 k3.drew np3 rfl rfl rfl rfl ?_
      intro w4 o4 k4
      have on4 := on3.drew.trans o4
      clear ca0 ca1 ca2 ca3 ca4
      have ca0 : w4.cell? ⟨bs, b0, none⟩ = some (.int .u8 x0) := by rw [← HX0.out]; exact (hrow _ on4).2 _ nb0
      have ca1 : w4.cell? ⟨bs, b1, none⟩ = some (.int .u8 x1) := by rw [← HX1.out]; exact (hrow _ on4).2 _ nb1
      have ca2 : w4.cell? ⟨bs, b2, none⟩ = some (.int .u8 x2) := by rw [← HX2.out]; exact (hrow _ on4).2 _ nb2
      have ca3 : w4.cell? ⟨bs, b3, none⟩ = some (.int .u8 x3) := by rw [← HX3.out]; exact (hrow _ on4).2 _ nb3
      have ca4 : w4.cell? ⟨bs, b4, none⟩ = some (.int .u8 x4) := by rw [← HX4.out]; exact (hrow _ on4).2 _ nb4
      simp only [Act.put]
      go_wp2_with fail
      go_roundw
      case rel =>
        have ep0 := Ep0.out
        have ep1 := Ep1.out
        have ep2 := Ep2.out
        have ep3 := Ep3.out
        have eb0 := Eb0.out
        have eb1 := Eb1.out
        have eb2 := Eb2.out
        have eb3 := Eb3.out
        have eb4 := Eb4.out
        refine ⟨r + 1, by omega, by go_num, by go_num, on4, ?_⟩
        refine k4.congr fun x hx => ?_
        unfold upto ints
        by_cases c3 : x = p3
        · rw [if_pos c3, if_pos (by omega), c3, HG3.out, FIN3.out]
        rw [if_neg c3]
        by_cases c2 : x = p2
        · rw [if_pos c2, if_pos (by omega), c2, HG2.out, FIN2.out]
        rw [if_neg c2]
        by_cases c1 : x = p1
        · rw [if_pos c1, if_pos (by omega), c1, HG1.out, FIN1.out]
        rw [if_neg c1]
        by_cases c0 : x = p0
        · rw [if_pos c0, if_pos (by omega), c0, HG0.out, FIN0.out]
        rw [if_neg c0]
        by_cases hlt : x < 4 * r
        · rw [if_pos hlt, if_pos (by omega)]
        · rw [if_neg hlt, if_neg (by omega)]
      case measure => simp [intOf]; omega
    · have hr' : r = 64 := by omega
      subst hr'
      go_wp2_with fail
      go_end0
      exact ⟨rfl, hon, by rw [show 4 * 64 = 256 by omega, upto_all] at hbk; exact hbk⟩
end Go.Proofs.Ytgkombmhadgioaa
