/- CompressTo (Kyber) at d = 10. -/
import Derived.Test.YtngmpnkhdjnhoaaKTan
import Derived.Test.YtngmpnkhdjnhoaaEncK
import Derived.Test.YtngmpnkhdjnhoaaOnly2
import Derived.Test.YtngmpnkhdjnhoaaBits
import Derived.Lib.Hide
namespace Go.Proofs.Ytngmpnkhdjnhoaa.comp10
open Go Go.Proofs Go.RowKit Go.Kd
set_option linter.unusedSimpArgs false
set_option linter.unusedVariables false
theorem szB : (Try.prog.info? 5).map (·.size) = some 1 := by kernel_rfl
theorem zeroT : (Try.prog.info? 57).map (fun i => (i.zero, i.size)) = some (some (.agg (cellsF 4 (ints .u16 fun _ => 0))), 4) := by rw [show cellsF 4 (ints .u16 fun _ => 0) = Array.replicate 4 (.int .u16 0) from (replicate_cellsF 4 _).symm]; kernel_rfl
theorem ok_all : (List.range 3329).all (fun x => ((x : Int) * 1024 + 1664) * 20642679 / 68719476736 % 65536 % 1024 == ((x : Int) * 2048 + 3329) / 6658 % 1024) = true := by kernel_rfl
theorem ok (x : Int) (h : 0 ≤ x ∧ x ≤ 3328) : (x * 1024 + 1664) * 20642679 / 68719476736 % 65536 % 1024 = (x * 2048 + 3329) / 6658 % 1024 := by
  obtain ⟨y, rfl⟩ := Int.eq_ofNat_of_zero_le h.1
  have h2 := List.all_eq_true.1 ok_all y (List.mem_range.2 (by omega))
  exact eq_of_beq h2
theorem in_ar (x0 g : Int) (h_x0 : 0 ≤ x0 ∧ x0 ≤ 3328) (hg : g = (x0 * 2048 + 3329) / 6658 % 1024) : ∃ y1 y2 y3 y4 y5 y6 y7 y8 : Int, IntKind.u32.wrap x0 = y1 ∧ IntKind.u32.wrap (y1 * 1024) = y2 ∧ IntKind.u32.wrap (y2 + 1664) = y3 ∧ IntKind.u64.wrap y3 = y4 ∧ IntKind.u64.wrap (y4 * 20642679) = y5 ∧ y5 / 68719476736 = y6 ∧ IntKind.u16.wrap y6 = y7 ∧ bits .and .u16 y7 1023 = y8 ∧ (x0) % 4294967296 = y1 ∧ (y1 * 1024) % 4294967296 = y2 ∧ (y2 + 1664) % 4294967296 = y3 ∧ (y3) % 18446744073709551616 = y4 ∧ (y4 * 20642679) % 18446744073709551616 = y5 ∧ (y6) % 65536 = y7 ∧ y8 = g := by
  obtain ⟨y1, hy1⟩ : ∃ y, IntKind.u32.wrap x0 = y := ⟨_, rfl⟩
  have my1 : y1 = (x0) % 4294967296 := by rw [← hy1, IntKind.wrap_u32]
  have ey1 : y1 = x0 := by omega
  obtain ⟨y2, hy2⟩ : ∃ y, IntKind.u32.wrap (y1 * 1024) = y := ⟨_, rfl⟩
  have my2 : y2 = (y1 * 1024) % 4294967296 := by rw [← hy2, IntKind.wrap_u32]
  have ey2 : y2 = y1 * 1024 := by omega
  obtain ⟨y3, hy3⟩ : ∃ y, IntKind.u32.wrap (y2 + 1664) = y := ⟨_, rfl⟩
  have my3 : y3 = (y2 + 1664) % 4294967296 := by rw [← hy3, IntKind.wrap_u32]
  have ey3 : y3 = y2 + 1664 := by omega
  obtain ⟨y4, hy4⟩ : ∃ y, IntKind.u64.wrap y3 = y := ⟨_, rfl⟩
  have my4 : y4 = (y3) % 18446744073709551616 := by rw [← hy4, wrap_u64']
  have ey4 : y4 = y3 := by omega
  obtain ⟨y5, hy5⟩ : ∃ y, IntKind.u64.wrap (y4 * 20642679) = y := ⟨_, rfl⟩
  have my5 : y5 = (y4 * 20642679) % 18446744073709551616 := by rw [← hy5, wrap_u64']
  have ey5 : y5 = y4 * 20642679 := by omega
  obtain ⟨y6, hy6⟩ : ∃ y, y5 / 68719476736 = y := ⟨_, rfl⟩
  have my6 : y6 = y5 / 68719476736 := hy6.symm
  obtain ⟨y7, hy7⟩ : ∃ y, IntKind.u16.wrap y6 = y := ⟨_, rfl⟩
  have my7 : y7 = (y6) % 65536 := by rw [← hy7, wrap_u16']
  obtain ⟨y8, hy8⟩ : ∃ y, bits .and .u16 y7 1023 = y := ⟨_, rfl⟩
  have my8 : y8 = y7 % 1024 := by rw [← hy8]; exact and_u16 y7 10 _ (by decide) (by decide)
  exact ⟨y1, y2, y3, y4, y5, y6, y7, y8, hy1, hy2, hy3, hy4, hy5, hy6, hy7, hy8, my1.symm, my2.symm, my3.symm, my4.symm, my5.symm, my7.symm, by rw [hg, ← ok x0 h_x0, my8, my7, my6, ey5, ey4, ey3, ey2, ey1]⟩
theorem out_ar0 (x0 g : Int) (h_x0 : 0 ≤ x0 ∧ x0 ≤ 1023) (hg : g = x0 % 256) : ∃ y1 : Int, IntKind.u8.wrap x0 = y1 ∧ (x0) % 256 = y1 ∧ y1 = g := by
  obtain ⟨y1, hy1⟩ : ∃ y, IntKind.u8.wrap x0 = y := ⟨_, rfl⟩
  have my1 : y1 = (x0) % 256 := by rw [← hy1, IntKind.wrap_u8]
  exact ⟨y1, hy1, my1.symm, by rw [hg]; omega⟩
theorem out_ar1 (x0 x1 g : Int) (h_x0 : 0 ≤ x0 ∧ x0 ≤ 1023) (h_x1 : 0 ≤ x1 ∧ x1 ≤ 1023) (hg : g = x0 / 256 + x1 % 64 * 4) : ∃ y2 y3 y4 y5 y6 : Int, x0 / 256 = y2 ∧ IntKind.u8.wrap y2 = y3 ∧ IntKind.u16.wrap (x1 * 4) = y4 ∧ IntKind.u8.wrap y4 = y5 ∧ bits .or .u8 y3 y5 = y6 ∧ (y2) % 256 = y3 ∧ (x1 * 4) % 65536 = y4 ∧ (y4) % 256 = y5 ∧ y6 = g := by
  obtain ⟨y2, hy2⟩ : ∃ y, x0 / 256 = y := ⟨_, rfl⟩
  have my2 : y2 = x0 / 256 := hy2.symm
  obtain ⟨y3, hy3⟩ : ∃ y, IntKind.u8.wrap y2 = y := ⟨_, rfl⟩
  have my3 : y3 = (y2) % 256 := by rw [← hy3, IntKind.wrap_u8]
  obtain ⟨y4, hy4⟩ : ∃ y, IntKind.u16.wrap (x1 * 4) = y := ⟨_, rfl⟩
  have my4 : y4 = (x1 * 4) % 65536 := by rw [← hy4, wrap_u16']
  obtain ⟨y5, hy5⟩ : ∃ y, IntKind.u8.wrap y4 = y := ⟨_, rfl⟩
  have my5 : y5 = (y4) % 256 := by rw [← hy5, IntKind.wrap_u8]
  obtain ⟨y6, hy6⟩ : ∃ y, bits .or .u8 y3 y5 = y := ⟨_, rfl⟩
  have my6 : y6 = y3 + y5 := by rw [← hy6]; exact or_u8 y3 y5 2 (y5 / 4) (by omega) (by omega) (by omega) (by omega) (by omega)
  exact ⟨y2, y3, y4, y5, y6, hy2, hy3, hy4, hy5, hy6, my3.symm, my4.symm, my5.symm, by rw [hg]; omega⟩
theorem out_ar2 (x1 x2 g : Int) (h_x1 : 0 ≤ x1 ∧ x1 ≤ 1023) (h_x2 : 0 ≤ x2 ∧ x2 ≤ 1023) (hg : g = x1 / 64 + x2 % 16 * 16) : ∃ y7 y8 y9 y10 y11 : Int, x1 / 64 = y7 ∧ IntKind.u8.wrap y7 = y8 ∧ IntKind.u16.wrap (x2 * 16) = y9 ∧ IntKind.u8.wrap y9 = y10 ∧ bits .or .u8 y8 y10 = y11 ∧ (y7) % 256 = y8 ∧ (x2 * 16) % 65536 = y9 ∧ (y9) % 256 = y10 ∧ y11 = g := by
  obtain ⟨y7, hy7⟩ : ∃ y, x1 / 64 = y := ⟨_, rfl⟩
  have my7 : y7 = x1 / 64 := hy7.symm
  obtain ⟨y8, hy8⟩ : ∃ y, IntKind.u8.wrap y7 = y := ⟨_, rfl⟩
  have my8 : y8 = (y7) % 256 := by rw [← hy8, IntKind.wrap_u8]
  obtain ⟨y9, hy9⟩ : ∃ y, IntKind.u16.wrap (x2 * 16) = y := ⟨_, rfl⟩
  have my9 : y9 = (x2 * 16) % 65536 := by rw [← hy9, wrap_u16']
  obtain ⟨y10, hy10⟩ : ∃ y, IntKind.u8.wrap y9 = y := ⟨_, rfl⟩
  have my10 : y10 = (y9) % 256 := by rw [← hy10, IntKind.wrap_u8]
  obtain ⟨y11, hy11⟩ : ∃ y, bits .or .u8 y8 y10 = y := ⟨_, rfl⟩
  have my11 : y11 = y8 + y10 := by rw [← hy11]; exact or_u8 y8 y10 4 (y10 / 16) (by omega) (by omega) (by omega) (by omega) (by omega)
  exact ⟨y7, y8, y9, y10, y11, hy7, hy8, hy9, hy10, hy11, my8.symm, my9.symm, my10.symm, by rw [hg]; omega⟩
theorem out_ar3 (x2 x3 g : Int) (h_x2 : 0 ≤ x2 ∧ x2 ≤ 1023) (h_x3 : 0 ≤ x3 ∧ x3 ≤ 1023) (hg : g = x2 / 16 + x3 % 4 * 64) : ∃ y12 y13 y14 y15 y16 : Int, x2 / 16 = y12 ∧ IntKind.u8.wrap y12 = y13 ∧ IntKind.u16.wrap (x3 * 64) = y14 ∧ IntKind.u8.wrap y14 = y15 ∧ bits .or .u8 y13 y15 = y16 ∧ (y12) % 256 = y13 ∧ (x3 * 64) % 65536 = y14 ∧ (y14) % 256 = y15 ∧ y16 = g := by
  obtain ⟨y12, hy12⟩ : ∃ y, x2 / 16 = y := ⟨_, rfl⟩
  have my12 : y12 = x2 / 16 := hy12.symm
  obtain ⟨y13, hy13⟩ : ∃ y, IntKind.u8.wrap y12 = y := ⟨_, rfl⟩
  have my13 : y13 = (y12) % 256 := by rw [← hy13, IntKind.wrap_u8]
  obtain ⟨y14, hy14⟩ : ∃ y, IntKind.u16.wrap (x3 * 64) = y := ⟨_, rfl⟩
  have my14 : y14 = (x3 * 64) % 65536 := by rw [← hy14, wrap_u16']
  obtain ⟨y15, hy15⟩ : ∃ y, IntKind.u8.wrap y14 = y := ⟨_, rfl⟩
  have my15 : y15 = (y14) % 256 := by rw [← hy15, IntKind.wrap_u8]
  obtain ⟨y16, hy16⟩ : ∃ y, bits .or .u8 y13 y15 = y := ⟨_, rfl⟩
  have my16 : y16 = y13 + y15 := by rw [← hy16]; exact or_u8 y13 y15 6 (y15 / 64) (by omega) (by omega) (by omega) (by omega) (by omega)
  exact ⟨y12, y13, y14, y15, y16, hy12, hy13, hy14, hy15, hy16, my13.symm, my14.symm, my15.symm, by rw [hg]; omega⟩
theorem out_ar4 (x3 g : Int) (h_x3 : 0 ≤ x3 ∧ x3 ≤ 1023) (hg : g = x3 / 4) : ∃ y17 y18 : Int, x3 / 4 = y17 ∧ IntKind.u8.wrap y17 = y18 ∧ (y17) % 256 = y18 ∧ y18 = g := by
  obtain ⟨y17, hy17⟩ : ∃ y, x3 / 4 = y := ⟨_, rfl⟩
  have my17 : y17 = x3 / 4 := hy17.symm
  obtain ⟨y18, hy18⟩ : ∃ y, IntKind.u8.wrap y17 = y := ⟨_, rfl⟩
  have my18 : y18 = (y17) % 256 := by rw [← hy18, IntKind.wrap_u8]
  exact ⟨y17, y18, hy17, hy18, my18.symm, by rw [hg]; omega⟩
set_option maxRecDepth 100000 in
set_option maxHeartbeats 20000000 in
theorem any (bs bd : Nat) (w0 w : World) (Td : TypeId) (f l G Z : Nat → Int) (hs0 : RowK w bs 256 .i16 f) (hd0 : Blk w bd Td (cellsF 320 (ints .u8 Z))) (hne : bs ≠ bd) (hx0 : Ext w0 w) (hsz : w0.heap.size ≤ bd) (hf : ∀ i, i < 256 → 0 ≤ f i ∧ f i ≤ 3328) (hlf : ∀ i, i < 256 → l i = (f i * 2048 + 3329) / 6658 % 1024)
    (hG0 : ∀ r, r < 64 → G (5 * r + 0) = l (4 * r + 0) % 256) (hG1 : ∀ r, r < 64 → G (5 * r + 1) = l (4 * r + 0) / 256 + l (4 * r + 1) % 64 * 4) (hG2 : ∀ r, r < 64 → G (5 * r + 2) = l (4 * r + 1) / 64 + l (4 * r + 2) % 16 * 16) (hG3 : ∀ r, r < 64 → G (5 * r + 3) = l (4 * r + 2) / 16 + l (4 * r + 3) % 4 * 64) (hG4 : ∀ r, r < 64 → G (5 * r + 4) = l (4 * r + 3) / 4) :
    Calls Try.prog 37 #[.pointer (some ⟨bs, 0, none⟩), .slice (some ⟨bd, 0, none⟩) 320 320, .int .i64 10] w fun e w' => e = .returned (.tuple #[]) ∧ Ext w0 w' ∧ Blk w' bd Td (cellsF 320 (ints .u8 G)) := by
  have ls := hs0.1
  have ld := hd0.lt
  have HH := Lib.hid hd0
  have HS := Lib.hid hs0
  clear hd0 hs0
  go_enter Try.func37, Try.ntmps37
  go_wp2_with (refine wpList_allocA 57 _ _ zeroT rfl rfl ?_; simp only [Act.put, List.setIfInBounds_toArray, List.set]; intro w1 bt ht x1 kt)
  have hs := HS.out.ext x1
  have hd := HH.out.ext x1
  have n1 : bs ≠ bt := by omega
  have n2 : bd ≠ bt := by omega
  have hw0 : w0.heap.size ≤ bt := by have := hx0.size; omega
  have HX := Lib.hid (Ext.trans hx0 x1)
  have HL := Lib.hid hlf
  clear x1 hx0 hlf
  go_loopw [16, 15] (fun x y wr => ∃ (r : Nat) (A : Nat → Int), r ≤ 64 ∧ x = .int .i64 (r : Nat) ∧ y = .int .i64 (5 * r : Nat) ∧ Only2 bt bd w1 wr ∧ Blk wr bt 57 (cellsF 4 (ints .u16 A)) ∧ Blk wr bd Td (cellsF 320 (upto (5 * r) (ints .u8 G) (ints .u8 Z)))) (fun x _ _ => 64 - (intOf x).toNat)
  case atStart => exact ⟨0, _, by omega, rfl, rfl, Only2.refl _ _ _, kt, by rw [upto_zero]; exact hd⟩
  case round =>
    obtain ⟨r, A, hr, rfl, rfl, hon, hbt, hbk⟩ := hrel
    by_cases hl : r < 64
    · clear kt hd HH HS
      go_wp2_with fail
      have hjz : decide ((r : Int) < 64) = true := decide_eq_true (by omega)
      rw [hjz]
      clear hjz
      go_loopw [17] (fun y wr => ∃ j : Nat, j ≤ 4 ∧ y = .int .i64 (j : Nat) ∧ Only2 bt bd w1 wr ∧ Blk wr bt 57 (cellsF 4 (upto j (ints .u16 fun k => l (4 * r + k)) (ints .u16 A))) ∧ Blk wr bd Td (cellsF 320 (upto (5 * r) (ints .u8 G) (ints .u8 Z)))) (fun y _ => 4 - (intOf y).toNat)
      case atStart => exact ⟨0, by omega, rfl, hon, by rw [upto_zero]; exact hbt, hbk⟩
      case round =>
        clear hon hbt hbk
        obtain ⟨j, hj, rfl, hon, hbt, hbk⟩ := hrel
        by_cases hjl : j < 4
        · obtain ⟨p, ep⟩ : ∃ p : Nat, p = 4 * r + j := ⟨_, rfl⟩
          have hnp : p < 256 := by omega
          obtain ⟨f1, f2⟩ := hf p hnp
          have gg := HL.out p hnp
          have cb : wr.cell? ⟨bs, p, none⟩ = some (.int .i16 (f p)) := (hon.row n1 hne hs).2 p hnp
          have ca : wr.cell? ⟨bt, j, none⟩ = some (.int .u16 (A j)) := by have h := hbt.cell hjl; rw [upto_at] at h; exact h
          have fp := hbt.frozen j
          have hlp : l (4 * r + j) = l p := by rw [ep]
          generalize l p = g at *
          generalize f p = x0 at *
          obtain ⟨y1, y2, y3, y4, y5, y6, y7, y8, hy1, hy2, hy3, hy4, hy5, hy6, hy7, hy8, my1, my2, my3, my4, my5, my7, fing⟩ := in_ar x0 g ⟨f1, f2⟩ gg
          have HF := Lib.hid (fing.trans hlp.symm)
          have hv1 := hon
          have HE := Lib.hid ep
          have z8 : 4 * (r : Int) + (j : Int) = (p : Int) := by omega
          have zb : (p : Int) < 256 := by omega
          have HN := Lib.hid hv1
          have HA := Lib.hid hf
          clear gg fing hlp ep hv1 hs hf hne n1
          clear hG0 hG1 hG2 hG3 hG4
          go_wp2_with fail
          go_roundw
          case rel =>
            have os : Only bt wr (wr.setCell ⟨bt, j, none⟩ (.int .u16 y8)) := (Only.refl bt wr).setCell _
            refine ⟨j + 1, by omega, by go_num, hon.trans (Only2.of1 os), ?_, os.blk n2 hbk⟩
            have h1 := Blk.setCell hbt j (ints .u16 (fun k => l (4 * r + k)) j)
            rw [upto_set (by rfl)] at h1
            rw [HF.out]
            exact h1
          case measure => simp [intOf]; omega
        · have hjN : j = 4 := by omega
          subst hjN
          rw [upto_all] at hbt
          have hrow := hbt.rowK
          have on0 : Only bd wr wr := Only.refl bd wr
          obtain ⟨b0, eb0⟩ : ∃ p : Nat, p = 5 * r + 0 := ⟨_, rfl⟩
          obtain ⟨b1, eb1⟩ : ∃ p : Nat, p = 5 * r + 1 := ⟨_, rfl⟩
          obtain ⟨b2, eb2⟩ : ∃ p : Nat, p = 5 * r + 2 := ⟨_, rfl⟩
          obtain ⟨b3, eb3⟩ : ∃ p : Nat, p = 5 * r + 3 := ⟨_, rfl⟩
          obtain ⟨b4, eb4⟩ : ∃ p : Nat, p = 5 * r + 4 := ⟨_, rfl⟩
          have la0 : 0 ≤ l (4 * r + 0) ∧ l (4 * r + 0) ≤ 1023 := by have h := HL.out (4 * r + 0) (by omega); omega
          have la1 : 0 ≤ l (4 * r + 1) ∧ l (4 * r + 1) ≤ 1023 := by have h := HL.out (4 * r + 1) (by omega); omega
          have la2 : 0 ≤ l (4 * r + 2) ∧ l (4 * r + 2) ≤ 1023 := by have h := HL.out (4 * r + 2) (by omega); omega
          have la3 : 0 ≤ l (4 * r + 3) ∧ l (4 * r + 3) ≤ 1023 := by have h := HL.out (4 * r + 3) (by omega); omega
          have gg0 : G b0 = l (4 * r + 0) % 256 := by rw [eb0, hG0 r hl]
          have gg1 : G b1 = l (4 * r + 0) / 256 + l (4 * r + 1) % 64 * 4 := by rw [eb1, hG1 r hl]
          have gg2 : G b2 = l (4 * r + 1) / 64 + l (4 * r + 2) % 16 * 16 := by rw [eb2, hG2 r hl]
          have gg3 : G b3 = l (4 * r + 2) / 16 + l (4 * r + 3) % 4 * 64 := by rw [eb3, hG3 r hl]
          have gg4 : G b4 = l (4 * r + 3) / 4 := by rw [eb4, hG4 r hl]
          have rc0 : ∀ w2, RowK w2 bt 4 .u16 (fun k => l (4 * r + k)) → w2.cell? ⟨bt, 0, none⟩ = some (.int .u16 (l (4 * r + 0))) := fun w2 h => h.2 0 (by omega)
          have rc1 : ∀ w2, RowK w2 bt 4 .u16 (fun k => l (4 * r + k)) → w2.cell? ⟨bt, 1, none⟩ = some (.int .u16 (l (4 * r + 1))) := fun w2 h => h.2 1 (by omega)
          have rc2 : ∀ w2, RowK w2 bt 4 .u16 (fun k => l (4 * r + k)) → w2.cell? ⟨bt, 2, none⟩ = some (.int .u16 (l (4 * r + 2))) := fun w2 h => h.2 2 (by omega)
          have rc3 : ∀ w2, RowK w2 bt 4 .u16 (fun k => l (4 * r + k)) → w2.cell? ⟨bt, 3, none⟩ = some (.int .u16 (l (4 * r + 3))) := fun w2 h => h.2 3 (by omega)
          generalize l (4 * r + 0) = x0 at *
          generalize l (4 * r + 1) = x1 at *
          generalize l (4 * r + 2) = x2 at *
          generalize l (4 * r + 3) = x3 at *
          generalize hg0 : G b0 = g0 at *
          generalize hg1 : G b1 = g1 at *
          generalize hg2 : G b2 = g2 at *
          generalize hg3 : G b3 = g3 at *
          generalize hg4 : G b4 = g4 at *
          have HG0 := Lib.hid hg0; clear hg0
          have HG1 := Lib.hid hg1; clear hg1
          have HG2 := Lib.hid hg2; clear hg2
          have HG3 := Lib.hid hg3; clear hg3
          have HG4 := Lib.hid hg4; clear hg4
          obtain ⟨y1, hy1, my1, fing0⟩ := out_ar0 x0 g0 la0 gg0
          obtain ⟨y2, y3, y4, y5, y6, hy2, hy3, hy4, hy5, hy6, my3, my4, my5, fing1⟩ := out_ar1 x0 x1 g1 la0 la1 gg1
          obtain ⟨y7, y8, y9, y10, y11, hy7, hy8, hy9, hy10, hy11, my8, my9, my10, fing2⟩ := out_ar2 x1 x2 g2 la1 la2 gg2
          obtain ⟨y12, y13, y14, y15, y16, hy12, hy13, hy14, hy15, hy16, my13, my14, my15, fing3⟩ := out_ar3 x2 x3 g3 la2 la3 gg3
          obtain ⟨y17, y18, hy17, hy18, my18, fing4⟩ := out_ar4 x3 g4 la3 gg4
          clear gg0 gg1 gg2 gg3 gg4
          have FIN0 := Lib.hid fing0; clear fing0
          have FIN1 := Lib.hid fing1; clear fing1
          have FIN2 := Lib.hid fing2; clear fing2
          have FIN3 := Lib.hid fing3; clear fing3
          have FIN4 := Lib.hid fing4; clear fing4
          have zb0 : 5 * (r : Int) = (b0 : Int) := by omega
          have tb0 : (b0 : Int) < 320 := by omega
          have nb0 : b0 < 320 := by omega
          have zb1 : (b0 : Int) + 1 = (b1 : Int) := by omega
          have ub1 : IntKind.i64.wrap (b1 : Int) = (b1 : Int) := by rw [IntKind.wrap_i64]; omega
          have tb1 : (b1 : Int) < 320 := by omega
          have nb1 : b1 < 320 := by omega
          have zb2 : (b0 : Int) + 2 = (b2 : Int) := by omega
          have ub2 : IntKind.i64.wrap (b2 : Int) = (b2 : Int) := by rw [IntKind.wrap_i64]; omega
          have tb2 : (b2 : Int) < 320 := by omega
          have nb2 : b2 < 320 := by omega
          have zb3 : (b0 : Int) + 3 = (b3 : Int) := by omega
          have ub3 : IntKind.i64.wrap (b3 : Int) = (b3 : Int) := by rw [IntKind.wrap_i64]; omega
          have tb3 : (b3 : Int) < 320 := by omega
          have nb3 : b3 < 320 := by omega
          have zb4 : (b0 : Int) + 4 = (b4 : Int) := by omega
          have ub4 : IntKind.i64.wrap (b4 : Int) = (b4 : Int) := by rw [IntKind.wrap_i64]; omega
          have tb4 : (b4 : Int) < 320 := by omega
          have nb4 : b4 < 320 := by omega
          have Eb0 := Lib.hid eb0; clear eb0
          have Eb1 := Lib.hid eb1; clear eb1
          have Eb2 := Lib.hid eb2; clear eb2
          have Eb3 := Lib.hid eb3; clear eb3
          have Eb4 := Lib.hid eb4; clear eb4
          have RC0 := Lib.hid rc0; clear rc0
          have RC1 := Lib.hid rc1; clear rc1
          have RC2 := Lib.hid rc2; clear rc2
          have RC3 := Lib.hid rc3; clear rc3
          have HR := Lib.hid (⟨hon, hbk, hs⟩ : _ ∧ _ ∧ _)
          have kk0 := hbk
          have ca0 := RC0.out wr hrow
          have ca1 := RC1.out wr hrow
          have ca2 := RC2.out wr hrow
          have ca3 := RC3.out wr hrow
          clear hs hf hbk hon hG0 hG1 hG2 hG3 hG4
          go_wp2_with (first | (refine wpList_storeI szB (.tmp 235) (.tmp 234) bd b0 .u8 y1 kk0 nb0 rfl rfl rfl rfl ?_; intro w2 o1 kk1; have on1 := on0.trans o1; clear ca0 ca1 ca2 ca3; have ca0 := RC0.out w2 (hrow.only n2.symm on1); have ca1 := RC1.out w2 (hrow.only n2.symm on1); have ca2 := RC2.out w2 (hrow.only n2.symm on1); have ca3 := RC3.out w2 (hrow.only n2.symm on1); simp only [Act.put]) | (refine wpList_storeI szB (.tmp 248) (.tmp 247) bd b1 .u8 y6 kk1 nb1 rfl rfl rfl rfl ?_; intro w3 o2 kk2; have on2 := on1.trans o2; clear ca0 ca1 ca2 ca3; have ca0 := RC0.out w3 (hrow.only n2.symm on2); have ca1 := RC1.out w3 (hrow.only n2.symm on2); have ca2 := RC2.out w3 (hrow.only n2.symm on2); have ca3 := RC3.out w3 (hrow.only n2.symm on2); simp only [Act.put]) | (refine wpList_storeI szB (.tmp 261) (.tmp 260) bd b2 .u8 y11 kk2 nb2 rfl rfl rfl rfl ?_; intro w4 o3 kk3; have on3 := on2.trans o3; clear ca0 ca1 ca2 ca3; have ca0 := RC0.out w4 (hrow.only n2.symm on3); have ca1 := RC1.out w4 (hrow.only n2.symm on3); have ca2 := RC2.out w4 (hrow.only n2.symm on3); have ca3 := RC3.out w4 (hrow.only n2.symm on3); simp only [Act.put]) | (refine wpList_storeI szB (.tmp 274) (.tmp 273) bd b3 .u8 y16 kk3 nb3 rfl rfl rfl rfl ?_; intro w5 o4 kk4; have on4 := on3.trans o4; clear ca0 ca1 ca2 ca3; have ca0 := RC0.out w5 (hrow.only n2.symm on4); have ca1 := RC1.out w5 (hrow.only n2.symm on4); have ca2 := RC2.out w5 (hrow.only n2.symm on4); have ca3 := RC3.out w5 (hrow.only n2.symm on4); simp only [Act.put]) | (refine wpList_storeI szB (.tmp 282) (.tmp 281) bd b4 .u8 y18 kk4 nb4 rfl rfl rfl rfl ?_; intro w6 o5 kk5; have on5 := on4.trans o5; clear ca0 ca1 ca2 ca3; have ca0 := RC0.out w6 (hrow.only n2.symm on5); have ca1 := RC1.out w6 (hrow.only n2.symm on5); have ca2 := RC2.out w6 (hrow.only n2.symm on5); have ca3 := RC3.out w6 (hrow.only n2.symm on5); simp only [Act.put]))
          go_roundw
          case rel =>
            have eb0 := Eb0.out
            have eb1 := Eb1.out
            have eb2 := Eb2.out
            have eb3 := Eb3.out
            have eb4 := Eb4.out
            refine ⟨r + 1, _, by omega, by go_num, by go_num, HR.out.1.trans (Only2.of2 on5), on5.blk n2.symm hbt, ?_⟩
            refine kk5.congr fun x hx => ?_
            unfold upto ints
            by_cases c4 : x = b4
            · rw [if_pos c4, if_pos (by omega), c4, HG4.out, FIN4.out]
            rw [if_neg c4]
            by_cases c3 : x = b3
            · rw [if_pos c3, if_pos (by omega), c3, HG3.out, FIN3.out]
            rw [if_neg c3]
            by_cases c2 : x = b2
            · rw [if_pos c2, if_pos (by omega), c2, HG2.out, FIN2.out]
            rw [if_neg c2]
            by_cases c1 : x = b1
            · rw [if_pos c1, if_pos (by omega), c1, HG1.out, FIN1.out]
            rw [if_neg c1]
            by_cases c0 : x = b0
            · rw [if_pos c0, if_pos (by omega), c0, HG0.out, FIN0.out]
            rw [if_neg c0]
            by_cases hlt : x < 5 * r
            · rw [if_pos hlt, if_pos (by omega)]
            · rw [if_neg hlt, if_neg (by omega)]
          case measure => simp [intOf]; omega
    · have hr' : r = 64 := by omega
      subst hr'
      clear kt hd HH HS hs hf
      go_wp2_with fail
      go_end0
      refine ⟨rfl, ?_, by rw [show 5 * 64 = 320 by omega, upto_all] at hbk; exact hbk⟩
      exact hon.ext HX.out hw0 hsz
end Go.Proofs.Ytngmpnkhdjnhoaa.comp10
