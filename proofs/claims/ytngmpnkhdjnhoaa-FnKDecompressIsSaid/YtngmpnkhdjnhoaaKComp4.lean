/- CompressTo (Kyber) at d = 4. -/
import Derived.Test.YtngmpnkhdjnhoaaKTan
import Derived.Test.YtngmpnkhdjnhoaaEncK
import Derived.Test.YtngmpnkhdjnhoaaOnly2
import Derived.Test.YtngmpnkhdjnhoaaBits
import Derived.Lib.Hide
namespace Go.Proofs.Ytngmpnkhdjnhoaa.comp4
open Go Go.Proofs Go.RowKit Go.Kd
set_option linter.unusedSimpArgs false
set_option linter.unusedVariables false
theorem szB : (Try.prog.info? 5).map (·.size) = some 1 := by kernel_rfl
theorem zeroT : (Try.prog.info? 56).map (fun i => (i.zero, i.size)) = some (some (.agg (cellsF 8 (ints .u16 fun _ => 0))), 8) := by rw [show cellsF 8 (ints .u16 fun _ => 0) = Array.replicate 8 (.int .u16 0) from (replicate_cellsF 8 _).symm]; kernel_rfl
theorem ok_all : (List.range 3329).all (fun x => ((x : Int) * 16 + 1664) * 315 / 1048576 % 65536 % 16 == ((x : Int) * 32 + 3329) / 6658 % 16) = true := by kernel_rfl
theorem ok (x : Int) (h : 0 ≤ x ∧ x ≤ 3328) : (x * 16 + 1664) * 315 / 1048576 % 65536 % 16 = (x * 32 + 3329) / 6658 % 16 := by
  obtain ⟨y, rfl⟩ := Int.eq_ofNat_of_zero_le h.1
  have h2 := List.all_eq_true.1 ok_all y (List.mem_range.2 (by omega))
  exact eq_of_beq h2
theorem in_ar (x0 g : Int) (h_x0 : 0 ≤ x0 ∧ x0 ≤ 3328) (hg : g = (x0 * 32 + 3329) / 6658 % 16) : ∃ y1 y2 y3 y4 y5 y6 y7 : Int, IntKind.u32.wrap x0 = y1 ∧ IntKind.u32.wrap (y1 * 16) = y2 ∧ IntKind.u32.wrap (y2 + 1664) = y3 ∧ IntKind.u32.wrap (y3 * 315) = y4 ∧ y4 / 1048576 = y5 ∧ IntKind.u16.wrap y5 = y6 ∧ bits .and .u16 y6 15 = y7 ∧ (x0) % 4294967296 = y1 ∧ (y1 * 16) % 4294967296 = y2 ∧ (y2 + 1664) % 4294967296 = y3 ∧ (y3 * 315) % 4294967296 = y4 ∧ (y5) % 65536 = y6 ∧ y7 = g := by
  obtain ⟨y1, hy1⟩ : ∃ y, IntKind.u32.wrap x0 = y := ⟨_, rfl⟩
  have my1 : y1 = (x0) % 4294967296 := by rw [← hy1, IntKind.wrap_u32]
  have ey1 : y1 = x0 := by omega
  obtain ⟨y2, hy2⟩ : ∃ y, IntKind.u32.wrap (y1 * 16) = y := ⟨_, rfl⟩
  have my2 : y2 = (y1 * 16) % 4294967296 := by rw [← hy2, IntKind.wrap_u32]
  have ey2 : y2 = y1 * 16 := by omega
  obtain ⟨y3, hy3⟩ : ∃ y, IntKind.u32.wrap (y2 + 1664) = y := ⟨_, rfl⟩
  have my3 : y3 = (y2 + 1664) % 4294967296 := by rw [← hy3, IntKind.wrap_u32]
  have ey3 : y3 = y2 + 1664 := by omega
  obtain ⟨y4, hy4⟩ : ∃ y, IntKind.u32.wrap (y3 * 315) = y := ⟨_, rfl⟩
  have my4 : y4 = (y3 * 315) % 4294967296 := by rw [← hy4, IntKind.wrap_u32]
  have ey4 : y4 = y3 * 315 := by omega
  obtain ⟨y5, hy5⟩ : ∃ y, y4 / 1048576 = y := ⟨_, rfl⟩
  have my5 : y5 = y4 / 1048576 := hy5.symm
  obtain ⟨y6, hy6⟩ : ∃ y, IntKind.u16.wrap y5 = y := ⟨_, rfl⟩
  have my6 : y6 = (y5) % 65536 := by rw [← hy6, wrap_u16']
  obtain ⟨y7, hy7⟩ : ∃ y, bits .and .u16 y6 15 = y := ⟨_, rfl⟩
  have my7 : y7 = y6 % 16 := by rw [← hy7]; exact and_u16 y6 4 _ (by decide) (by decide)
  exact ⟨y1, y2, y3, y4, y5, y6, y7, hy1, hy2, hy3, hy4, hy5, hy6, hy7, my1.symm, my2.symm, my3.symm, my4.symm, my6.symm, by rw [hg, ← ok x0 h_x0, my7, my6, my5, ey4, ey3, ey2, ey1]⟩
theorem out_ar0 (x0 x1 g : Int) (h_x0 : 0 ≤ x0 ∧ x0 ≤ 15) (h_x1 : 0 ≤ x1 ∧ x1 ≤ 15) (hg : g = x0 + x1 * 16) : ∃ y1 y2 y3 y4 : Int, IntKind.u8.wrap x0 = y1 ∧ IntKind.u16.wrap (x1 * 16) = y2 ∧ IntKind.u8.wrap y2 = y3 ∧ bits .or .u8 y1 y3 = y4 ∧ (x0) % 256 = y1 ∧ (x1 * 16) % 65536 = y2 ∧ (y2) % 256 = y3 ∧ y4 = g := by
  obtain ⟨y1, hy1⟩ : ∃ y, IntKind.u8.wrap x0 = y := ⟨_, rfl⟩
  have my1 : y1 = (x0) % 256 := by rw [← hy1, IntKind.wrap_u8]
  obtain ⟨y2, hy2⟩ : ∃ y, IntKind.u16.wrap (x1 * 16) = y := ⟨_, rfl⟩
  have my2 : y2 = (x1 * 16) % 65536 := by rw [← hy2, wrap_u16']
  obtain ⟨y3, hy3⟩ : ∃ y, IntKind.u8.wrap y2 = y := ⟨_, rfl⟩
  have my3 : y3 = (y2) % 256 := by rw [← hy3, IntKind.wrap_u8]
  obtain ⟨y4, hy4⟩ : ∃ y, bits .or .u8 y1 y3 = y := ⟨_, rfl⟩
  have my4 : y4 = y1 + y3 := by rw [← hy4]; exact or_u8 y1 y3 4 (y3 / 16) (by omega) (by omega) (by omega) (by omega) (by omega)
  exact ⟨y1, y2, y3, y4, hy1, hy2, hy3, hy4, my1.symm, my2.symm, my3.symm, by rw [hg]; omega⟩
theorem out_ar1 (x2 x3 g : Int) (h_x2 : 0 ≤ x2 ∧ x2 ≤ 15) (h_x3 : 0 ≤ x3 ∧ x3 ≤ 15) (hg : g = x2 + x3 * 16) : ∃ y5 y6 y7 y8 : Int, IntKind.u8.wrap x2 = y5 ∧ IntKind.u16.wrap (x3 * 16) = y6 ∧ IntKind.u8.wrap y6 = y7 ∧ bits .or .u8 y5 y7 = y8 ∧ (x2) % 256 = y5 ∧ (x3 * 16) % 65536 = y6 ∧ (y6) % 256 = y7 ∧ y8 = g := by
  obtain ⟨y5, hy5⟩ : ∃ y, IntKind.u8.wrap x2 = y := ⟨_, rfl⟩
  have my5 : y5 = (x2) % 256 := by rw [← hy5, IntKind.wrap_u8]
  obtain ⟨y6, hy6⟩ : ∃ y, IntKind.u16.wrap (x3 * 16) = y := ⟨_, rfl⟩
  have my6 : y6 = (x3 * 16) % 65536 := by rw [← hy6, wrap_u16']
  obtain ⟨y7, hy7⟩ : ∃ y, IntKind.u8.wrap y6 = y := ⟨_, rfl⟩
  have my7 : y7 = (y6) % 256 := by rw [← hy7, IntKind.wrap_u8]
  obtain ⟨y8, hy8⟩ : ∃ y, bits .or .u8 y5 y7 = y := ⟨_, rfl⟩
  have my8 : y8 = y5 + y7 := by rw [← hy8]; exact or_u8 y5 y7 4 (y7 / 16) (by omega) (by omega) (by omega) (by omega) (by omega)
  exact ⟨y5, y6, y7, y8, hy5, hy6, hy7, hy8, my5.symm, my6.symm, my7.symm, by rw [hg]; omega⟩
theorem out_ar2 (x4 x5 g : Int) (h_x4 : 0 ≤ x4 ∧ x4 ≤ 15) (h_x5 : 0 ≤ x5 ∧ x5 ≤ 15) (hg : g = x4 + x5 * 16) : ∃ y9 y10 y11 y12 : Int, IntKind.u8.wrap x4 = y9 ∧ IntKind.u16.wrap (x5 * 16) = y10 ∧ IntKind.u8.wrap y10 = y11 ∧ bits .or .u8 y9 y11 = y12 ∧ (x4) % 256 = y9 ∧ (x5 * 16) % 65536 = y10 ∧ (y10) % 256 = y11 ∧ y12 = g := by
  obtain ⟨y9, hy9⟩ : ∃ y, IntKind.u8.wrap x4 = y := ⟨_, rfl⟩
  have my9 : y9 = (x4) % 256 := by rw [← hy9, IntKind.wrap_u8]
  obtain ⟨y10, hy10⟩ : ∃ y, IntKind.u16.wrap (x5 * 16) = y := ⟨_, rfl⟩
  have my10 : y10 = (x5 * 16) % 65536 := by rw [← hy10, wrap_u16']
  obtain ⟨y11, hy11⟩ : ∃ y, IntKind.u8.wrap y10 = y := ⟨_, rfl⟩
  have my11 : y11 = (y10) % 256 := by rw [← hy11, IntKind.wrap_u8]
  obtain ⟨y12, hy12⟩ : ∃ y, bits .or .u8 y9 y11 = y := ⟨_, rfl⟩
  have my12 : y12 = y9 + y11 := by rw [← hy12]; exact or_u8 y9 y11 4 (y11 / 16) (by omega) (by omega) (by omega) (by omega) (by omega)
  exact ⟨y9, y10, y11, y12, hy9, hy10, hy11, hy12, my9.symm, my10.symm, my11.symm, by rw [hg]; omega⟩
theorem out_ar3 (x6 x7 g : Int) (h_x6 : 0 ≤ x6 ∧ x6 ≤ 15) (h_x7 : 0 ≤ x7 ∧ x7 ≤ 15) (hg : g = x6 + x7 * 16) : ∃ y13 y14 y15 y16 : Int, IntKind.u8.wrap x6 = y13 ∧ IntKind.u16.wrap (x7 * 16) = y14 ∧ IntKind.u8.wrap y14 = y15 ∧ bits .or .u8 y13 y15 = y16 ∧ (x6) % 256 = y13 ∧ (x7 * 16) % 65536 = y14 ∧ (y14) % 256 = y15 ∧ y16 = g := by
  obtain ⟨y13, hy13⟩ : ∃ y, IntKind.u8.wrap x6 = y := ⟨_, rfl⟩
  have my13 : y13 = (x6) % 256 := by rw [← hy13, IntKind.wrap_u8]
  obtain ⟨y14, hy14⟩ : ∃ y, IntKind.u16.wrap (x7 * 16) = y := ⟨_, rfl⟩
  have my14 : y14 = (x7 * 16) % 65536 := by rw [← hy14, wrap_u16']
  obtain ⟨y15, hy15⟩ : ∃ y, IntKind.u8.wrap y14 = y := ⟨_, rfl⟩
  have my15 : y15 = (y14) % 256 := by rw [← hy15, IntKind.wrap_u8]
  obtain ⟨y16, hy16⟩ : ∃ y, bits .or .u8 y13 y15 = y := ⟨_, rfl⟩
  have my16 : y16 = y13 + y15 := by rw [← hy16]; exact or_u8 y13 y15 4 (y15 / 16) (by omega) (by omega) (by omega) (by omega) (by omega)
  exact ⟨y13, y14, y15, y16, hy13, hy14, hy15, hy16, my13.symm, my14.symm, my15.symm, by rw [hg]; omega⟩
set_option maxRecDepth 100000 in
set_option maxHeartbeats 20000000 in
theorem any (bs bd : Nat) (w0 w : World) (Td : TypeId) (f l G Z : Nat → Int) (hs0 : RowK w bs 256 .i16 f) (hd0 : Blk w bd Td (cellsF 128 (ints .u8 Z))) (hne : bs ≠ bd) (hx0 : Ext w0 w) (hsz : w0.heap.size ≤ bd) (hf : ∀ i, i < 256 → 0 ≤ f i ∧ f i ≤ 3328) (hlf : ∀ i, i < 256 → l i = (f i * 32 + 3329) / 6658 % 16)
    (hG0 : ∀ r, r < 32 → G (4 * r + 0) = l (8 * r + 0) + l (8 * r + 1) * 16) (hG1 : ∀ r, r < 32 → G (4 * r + 1) = l (8 * r + 2) + l (8 * r + 3) * 16) (hG2 : ∀ r, r < 32 → G (4 * r + 2) = l (8 * r + 4) + l (8 * r + 5) * 16) (hG3 : ∀ r, r < 32 → G (4 * r + 3) = l (8 * r + 6) + l (8 * r + 7) * 16) :
    Calls Try.prog 37 #[.pointer (some ⟨bs, 0, none⟩), .slice (some ⟨bd, 0, none⟩) 128 128, .int .i64 4] w fun e w' => e = .returned (.tuple #[]) ∧ Ext w0 w' ∧ Blk w' bd Td (cellsF 128 (ints .u8 G)) := by
  have ls := hs0.1
  have ld := hd0.lt
  have HH := Lib.hid hd0
  have HS := Lib.hid hs0
  clear hd0 hs0
  go_enter Try.func37, Try.ntmps37
  go_wp2_with (refine wpList_allocA 56 _ _ zeroT rfl rfl ?_; simp only [Act.put, List.setIfInBounds_toArray, List.set]; intro w1 bt ht x1 kt)
  have hs := HS.out.ext x1
  have hd := HH.out.ext x1
  have n1 : bs ≠ bt := by omega
  have n2 : bd ≠ bt := by omega
  have hw0 : w0.heap.size ≤ bt := by have := hx0.size; omega
  have HX := Lib.hid (Ext.trans hx0 x1)
  have HL := Lib.hid hlf
  clear x1 hx0 hlf
  go_loopw [8, 7] (fun x y wr => ∃ (r : Nat) (A : Nat → Int), r ≤ 32 ∧ x = .int .i64 (r : Nat) ∧ y = .int .i64 (4 * r : Nat) ∧ Only2 bt bd w1 wr ∧ Blk wr bt 56 (cellsF 8 (ints .u16 A)) ∧ Blk wr bd Td (cellsF 128 (upto (4 * r) (ints .u8 G) (ints .u8 Z)))) (fun x _ _ => 32 - (intOf x).toNat)
  case atStart => exact ⟨0, _, by omega, rfl, rfl, Only2.refl _ _ _, kt, by rw [upto_zero]; exact hd⟩
  case round =>
    obtain ⟨r, A, hr, rfl, rfl, hon, hbt, hbk⟩ := hrel
    by_cases hl : r < 32
    · clear kt hd HH HS
      go_wp2_with fail
      have hjz : decide ((r : Int) < 32) = true := decide_eq_true (by omega)
      rw [hjz]
      clear hjz
      go_loopw [9] (fun y wr => ∃ j : Nat, j ≤ 8 ∧ y = .int .i64 (j : Nat) ∧ Only2 bt bd w1 wr ∧ Blk wr bt 56 (cellsF 8 (upto j (ints .u16 fun k => l (8 * r + k)) (ints .u16 A))) ∧ Blk wr bd Td (cellsF 128 (upto (4 * r) (ints .u8 G) (ints .u8 Z)))) (fun y _ => 8 - (intOf y).toNat)
      case atStart => exact ⟨0, by omega, rfl, hon, by rw [upto_zero]; exact hbt, hbk⟩
      case round =>
        clear hon hbt hbk
        obtain ⟨j, hj, rfl, hon, hbt, hbk⟩ := hrel
        by_cases hjl : j < 8
        · obtain ⟨p, ep⟩ : ∃ p : Nat, p = 8 * r + j := ⟨_, rfl⟩
          have hnp : p < 256 := by omega
          obtain ⟨f1, f2⟩ := hf p hnp
          have gg := HL.out p hnp
          have cb : wr.cell? ⟨bs, p, none⟩ = some (.int .i16 (f p)) := (hon.row n1 hne hs).2 p hnp
          have ca : wr.cell? ⟨bt, j, none⟩ = some (.int .u16 (A j)) := by have h := hbt.cell hjl; rw [upto_at] at h; exact h
          have fp := hbt.frozen j
          have hlp : l (8 * r + j) = l p := by rw [ep]
          generalize l p = g at *
          generalize f p = x0 at *
          obtain ⟨y1, y2, y3, y4, y5, y6, y7, hy1, hy2, hy3, hy4, hy5, hy6, hy7, my1, my2, my3, my4, my6, fing⟩ := in_ar x0 g ⟨f1, f2⟩ gg
          have HF := Lib.hid (fing.trans hlp.symm)
          have hv1 := hon
          have HE := Lib.hid ep
          have z8 : 8 * (r : Int) + (j : Int) = (p : Int) := by omega
          have zb : (p : Int) < 256 := by omega
          have HN := Lib.hid hv1
          have HA := Lib.hid hf
          clear gg fing hlp ep hv1 hs hf hne n1
          clear hG0 hG1 hG2 hG3
          go_wp2_with fail
          go_roundw
          case rel =>
            have os : Only bt wr (wr.setCell ⟨bt, j, none⟩ (.int .u16 y7)) := (Only.refl bt wr).setCell _
            refine ⟨j + 1, by omega, by go_num, hon.trans (Only2.of1 os), ?_, os.blk n2 hbk⟩
            have h1 := Blk.setCell hbt j (ints .u16 (fun k => l (8 * r + k)) j)
            rw [upto_set (by rfl)] at h1
            rw [HF.out]
            exact h1
          case measure => simp [intOf]; omega
        · have hjN : j = 8 := by omega
          subst hjN
          rw [upto_all] at hbt
          have hrow := hbt.rowK
          have on0 : Only bd wr wr := Only.refl bd wr
          obtain ⟨b0, eb0⟩ : ∃ p : Nat, p = 4 * r + 0 := ⟨_, rfl⟩
          obtain ⟨b1, eb1⟩ : ∃ p : Nat, p = 4 * r + 1 := ⟨_, rfl⟩
          obtain ⟨b2, eb2⟩ : ∃ p : Nat, p = 4 * r + 2 := ⟨_, rfl⟩
          obtain ⟨b3, eb3⟩ : ∃ p : Nat, p = 4 * r + 3 := ⟨_, rfl⟩
          have la0 : 0 ≤ l (8 * r + 0) ∧ l (8 * r + 0) ≤ 15 := by have h := HL.out (8 * r + 0) (by omega); omega
          have la1 : 0 ≤ l (8 * r + 1) ∧ l (8 * r + 1) ≤ 15 := by have h := HL.out (8 * r + 1) (by omega); omega
          have la2 : 0 ≤ l (8 * r + 2) ∧ l (8 * r + 2) ≤ 15 := by have h := HL.out (8 * r + 2) (by omega); omega
          have la3 : 0 ≤ l (8 * r + 3) ∧ l (8 * r + 3) ≤ 15 := by have h := HL.out (8 * r + 3) (by omega); omega
          have la4 : 0 ≤ l (8 * r + 4) ∧ l (8 * r + 4) ≤ 15 := by have h := HL.out (8 * r + 4) (by omega); omega
          have la5 : 0 ≤ l (8 * r + 5) ∧ l (8 * r + 5) ≤ 15 := by have h := HL.out (8 * r + 5) (by omega); omega
          have la6 : 0 ≤ l (8 * r + 6) ∧ l (8 * r + 6) ≤ 15 := by have h := HL.out (8 * r + 6) (by omega); omega
          have la7 : 0 ≤ l (8 * r + 7) ∧ l (8 * r + 7) ≤ 15 := by have h := HL.out (8 * r + 7) (by omega); omega
          have gg0 : G b0 = l (8 * r + 0) + l (8 * r + 1) * 16 := by rw [eb0, hG0 r hl]
          have gg1 : G b1 = l (8 * r + 2) + l (8 * r + 3) * 16 := by rw [eb1, hG1 r hl]
          have gg2 : G b2 = l (8 * r + 4) + l (8 * r + 5) * 16 := by rw [eb2, hG2 r hl]
          have gg3 : G b3 = l (8 * r + 6) + l (8 * r + 7) * 16 := by rw [eb3, hG3 r hl]
          have rc0 : ∀ w2, RowK w2 bt 8 .u16 (fun k => l (8 * r + k)) → w2.cell? ⟨bt, 0, none⟩ = some (.int .u16 (l (8 * r + 0))) := fun w2 h => h.2 0 (by omega)
          have rc1 : ∀ w2, RowK w2 bt 8 .u16 (fun k => l (8 * r + k)) → w2.cell? ⟨bt, 1, none⟩ = some (.int .u16 (l (8 * r + 1))) := fun w2 h => h.2 1 (by omega)
          have rc2 : ∀ w2, RowK w2 bt 8 .u16 (fun k => l (8 * r + k)) → w2.cell? ⟨bt, 2, none⟩ = some (.int .u16 (l (8 * r + 2))) := fun w2 h => h.2 2 (by omega)
          have rc3 : ∀ w2, RowK w2 bt 8 .u16 (fun k => l (8 * r + k)) → w2.cell? ⟨bt, 3, none⟩ = some (.int .u16 (l (8 * r + 3))) := fun w2 h => h.2 3 (by omega)
          have rc4 : ∀ w2, RowK w2 bt 8 .u16 (fun k => l (8 * r + k)) → w2.cell? ⟨bt, 4, none⟩ = some (.int .u16 (l (8 * r + 4))) := fun w2 h => h.2 4 (by omega)
          have rc5 : ∀ w2, RowK w2 bt 8 .u16 (fun k => l (8 * r + k)) → w2.cell? ⟨bt, 5, none⟩ = some (.int .u16 (l (8 * r + 5))) := fun w2 h => h.2 5 (by omega)
          have rc6 : ∀ w2, RowK w2 bt 8 .u16 (fun k => l (8 * r + k)) → w2.cell? ⟨bt, 6, none⟩ = some (.int .u16 (l (8 * r + 6))) := fun w2 h => h.2 6 (by omega)
          have rc7 : ∀ w2, RowK w2 bt 8 .u16 (fun k => l (8 * r + k)) → w2.cell? ⟨bt, 7, none⟩ = some (.int .u16 (l (8 * r + 7))) := fun w2 h => h.2 7 (by omega)
          generalize l (8 * r + 0) = x0 at *
          generalize l (8 * r + 1) = x1 at *
          generalize l (8 * r + 2) = x2 at *
          generalize l (8 * r + 3) = x3 at *
          generalize l (8 * r + 4) = x4 at *
          generalize l (8 * r + 5) = x5 at *
          generalize l (8 * r + 6) = x6 at *
          generalize l (8 * r + 7) = x7 at *
          generalize hg0 : G b0 = g0 at *
          generalize hg1 : G b1 = g1 at *
          generalize hg2 : G b2 = g2 at *
          generalize hg3 : G b3 = g3 at *
          have HG0 := Lib.hid hg0; clear hg0
          have HG1 := Lib.hid hg1; clear hg1
          have HG2 := Lib.hid hg2; clear hg2
          have HG3 := Lib.hid hg3; clear hg3
          obtain ⟨y1, y2, y3, y4, hy1, hy2, hy3, hy4, my1, my2, my3, fing0⟩ := out_ar0 x0 x1 g0 la0 la1 gg0
          obtain ⟨y5, y6, y7, y8, hy5, hy6, hy7, hy8, my5, my6, my7, fing1⟩ := out_ar1 x2 x3 g1 la2 la3 gg1
          obtain ⟨y9, y10, y11, y12, hy9, hy10, hy11, hy12, my9, my10, my11, fing2⟩ := out_ar2 x4 x5 g2 la4 la5 gg2
          obtain ⟨y13, y14, y15, y16, hy13, hy14, hy15, hy16, my13, my14, my15, fing3⟩ := out_ar3 x6 x7 g3 la6 la7 gg3
          clear gg0 gg1 gg2 gg3
          have FIN0 := Lib.hid fing0; clear fing0
          have FIN1 := Lib.hid fing1; clear fing1
          have FIN2 := Lib.hid fing2; clear fing2
          have FIN3 := Lib.hid fing3; clear fing3
          have zb0 : 4 * (r : Int) = (b0 : Int) := by omega
          have tb0 : (b0 : Int) < 128 := by omega
          have nb0 : b0 < 128 := by omega
          have zb1 : (b0 : Int) + 1 = (b1 : Int) := by omega
          have ub1 : IntKind.i64.wrap (b1 : Int) = (b1 : Int) := by rw [IntKind.wrap_i64]; omega
          have tb1 : (b1 : Int) < 128 := by omega
          have nb1 : b1 < 128 := by omega
          have zb2 : (b0 : Int) + 2 = (b2 : Int) := by omega
          have ub2 : IntKind.i64.wrap (b2 : Int) = (b2 : Int) := by rw [IntKind.wrap_i64]; omega
          have tb2 : (b2 : Int) < 128 := by omega
          have nb2 : b2 < 128 := by omega
          have zb3 : (b0 : Int) + 3 = (b3 : Int) := by omega
          have ub3 : IntKind.i64.wrap (b3 : Int) = (b3 : Int) := by rw [IntKind.wrap_i64]; omega
          have tb3 : (b3 : Int) < 128 := by omega
          have nb3 : b3 < 128 := by omega
          have Eb0 := Lib.hid eb0; clear eb0
          have Eb1 := Lib.hid eb1; clear eb1
          have Eb2 := Lib.hid eb2; clear eb2
          have Eb3 := Lib.hid eb3; clear eb3
          have RC0 := Lib.hid rc0; clear rc0
          have RC1 := Lib.hid rc1; clear rc1
          have RC2 := Lib.hid rc2; clear rc2
          have RC3 := Lib.hid rc3; clear rc3
          have RC4 := Lib.hid rc4; clear rc4
          have RC5 := Lib.hid rc5; clear rc5
          have RC6 := Lib.hid rc6; clear rc6
          have RC7 := Lib.hid rc7; clear rc7
          have HR := Lib.hid (⟨hon, hbk, hs⟩ : _ ∧ _ ∧ _)
          have kk0 := hbk
          have ca0 := RC0.out wr hrow
          have ca1 := RC1.out wr hrow
          have ca2 := RC2.out wr hrow
          have ca3 := RC3.out wr hrow
          have ca4 := RC4.out wr hrow
          have ca5 := RC5.out wr hrow
          have ca6 := RC6.out wr hrow
          have ca7 := RC7.out wr hrow
          clear hs hf hbk hon hG0 hG1 hG2 hG3
          go_wp2_with (first | (refine wpList_storeI szB (.tmp 61) (.tmp 60) bd b0 .u8 y4 kk0 nb0 rfl rfl rfl rfl ?_; intro w2 o1 kk1; have on1 := on0.trans o1; clear ca0 ca1 ca2 ca3 ca4 ca5 ca6 ca7; have ca0 := RC0.out w2 (hrow.only n2.symm on1); have ca1 := RC1.out w2 (hrow.only n2.symm on1); have ca2 := RC2.out w2 (hrow.only n2.symm on1); have ca3 := RC3.out w2 (hrow.only n2.symm on1); have ca4 := RC4.out w2 (hrow.only n2.symm on1); have ca5 := RC5.out w2 (hrow.only n2.symm on1); have ca6 := RC6.out w2 (hrow.only n2.symm on1); have ca7 := RC7.out w2 (hrow.only n2.symm on1); simp only [Act.put]) | (refine wpList_storeI szB (.tmp 73) (.tmp 72) bd b1 .u8 y8 kk1 nb1 rfl rfl rfl rfl ?_; intro w3 o2 kk2; have on2 := on1.trans o2; clear ca0 ca1 ca2 ca3 ca4 ca5 ca6 ca7; have ca0 := RC0.out w3 (hrow.only n2.symm on2); have ca1 := RC1.out w3 (hrow.only n2.symm on2); have ca2 := RC2.out w3 (hrow.only n2.symm on2); have ca3 := RC3.out w3 (hrow.only n2.symm on2); have ca4 := RC4.out w3 (hrow.only n2.symm on2); have ca5 := RC5.out w3 (hrow.only n2.symm on2); have ca6 := RC6.out w3 (hrow.only n2.symm on2); have ca7 := RC7.out w3 (hrow.only n2.symm on2); simp only [Act.put]) | (refine wpList_storeI szB (.tmp 85) (.tmp 84) bd b2 .u8 y12 kk2 nb2 rfl rfl rfl rfl ?_; intro w4 o3 kk3; have on3 := on2.trans o3; clear ca0 ca1 ca2 ca3 ca4 ca5 ca6 ca7; have ca0 := RC0.out w4 (hrow.only n2.symm on3); have ca1 := RC1.out w4 (hrow.only n2.symm on3); have ca2 := RC2.out w4 (hrow.only n2.symm on3); have ca3 := RC3.out w4 (hrow.only n2.symm on3); have ca4 := RC4.out w4 (hrow.only n2.symm on3); have ca5 := RC5.out w4 (hrow.only n2.symm on3); have ca6 := RC6.out w4 (hrow.only n2.symm on3); have ca7 := RC7.out w4 (hrow.only n2.symm on3); simp only [Act.put]) | (refine wpList_storeI szB (.tmp 97) (.tmp 96) bd b3 .u8 y16 kk3 nb3 rfl rfl rfl rfl ?_; intro w5 o4 kk4; have on4 := on3.trans o4; clear ca0 ca1 ca2 ca3 ca4 ca5 ca6 ca7; have ca0 := RC0.out w5 (hrow.only n2.symm on4); have ca1 := RC1.out w5 (hrow.only n2.symm on4); have ca2 := RC2.out w5 (hrow.only n2.symm on4); have ca3 := RC3.out w5 (hrow.only n2.symm on4); have ca4 := RC4.out w5 (hrow.only n2.symm on4); have ca5 := RC5.out w5 (hrow.only n2.symm on4); have ca6 := RC6.out w5 (hrow.only n2.symm on4); have ca7 := RC7.out w5 (hrow.only n2.symm on4); simp only [Act.put]))
          go_roundw
          case rel =>
            have eb0 := Eb0.out
            have eb1 := Eb1.out
            have eb2 := Eb2.out
            have eb3 := Eb3.out
            refine ⟨r + 1, _, by omega, by go_num, by go_num, HR.out.1.trans (Only2.of2 on4), on4.blk n2.symm hbt, ?_⟩
            refine kk4.congr fun x hx => ?_
            unfold upto ints
            by_cases c3 : x = b3
            · rw [if_pos c3, if_pos (by omega), c3, HG3.out, FIN3.out]
            rw [if_neg c3]
            by_cases c2 : x = b2
            · rw [if_pos c2, if_pos (by omega), c2, HG2.out, FIN2.out]
            rw [if_neg c2]
            by_cases c1 : x = b1
            · rw [if_pos c1, if_pos (by omega), c1, HG1.out, FIN1.out]
            rw [if_neg c1]
            by_cases c0 : x = b0
            · rw [if_pos c0, if_pos (by omega), c0, HG0.out, FIN0.out]
            rw [if_neg c0]
            by_cases hlt : x < 4 * r
            · rw [if_pos hlt, if_pos (by omega)]
            · rw [if_neg hlt, if_neg (by omega)]
          case measure => simp [intOf]; omega
    · have hr' : r = 32 := by omega
      subst hr'
      clear kt hd HH HS hs hf
      go_wp2_with fail
      go_end0
      refine ⟨rfl, ?_, by rw [show 4 * 32 = 128 by omega, upto_all] at hbk; exact hbk⟩
      exact hon.ext HX.out hw0 hsz
end Go.Proofs.Ytngmpnkhdjnhoaa.comp4
