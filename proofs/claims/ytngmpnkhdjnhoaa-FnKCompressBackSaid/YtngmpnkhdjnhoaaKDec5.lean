/- Decompress (Kyber) at d = 5. -/
import Derived.Test.YtngmpnkhdjnhoaaKTan
import Derived.Test.YtngmpnkhdjnhoaaEncK
import Derived.Test.YtngmpnkhdjnhoaaOnly2
import Derived.Test.YtngmpnkhdjnhoaaBits
import Derived.Lib.Hide
namespace Go.Proofs.Ytngmpnkhdjnhoaa.decomp5
open Go Go.Proofs Go.RowKit Go.Kd
set_option linter.unusedSimpArgs false
set_option linter.unusedVariables false
theorem szU : (Try.prog.info? 55).map (·.size) = some 1 := by kernel_rfl
theorem zeroT : (Try.prog.info? 56).map (fun i => (i.zero, i.size)) = some (some (.agg (cellsF 8 (ints .u16 fun _ => 0))), 8) := by rw [show cellsF 8 (ints .u16 fun _ => 0) = Array.replicate 8 (.int .u16 0) from (replicate_cellsF 8 _).symm]; kernel_rfl

theorem in_ar (x0 g : Int) (h_x0 : 0 ≤ x0 ∧ x0 ≤ 65535) (hg : g = (16 + x0 % 32 * 3329) / 32) : ∃ y1 y2 y3 y4 y5 y6 : Int, bits .and .u16 x0 31 = y1 ∧ IntKind.u32.wrap y1 = y2 ∧ IntKind.u32.wrap (y2 * 3329) = y3 ∧ IntKind.u32.wrap (16 + y3) = y4 ∧ y4 / 32 = y5 ∧ IntKind.i16.wrap y5 = y6 ∧ (y1) % 4294967296 = y2 ∧ (y2 * 3329) % 4294967296 = y3 ∧ (16 + y3) % 4294967296 = y4 ∧ y6 = g := by
  obtain ⟨y1, hy1⟩ : ∃ y, bits .and .u16 x0 31 = y := ⟨_, rfl⟩
  have my1 : y1 = x0 % 32 := by rw [← hy1]; exact and_u16 x0 5 _ (by decide) (by decide)
  obtain ⟨y2, hy2⟩ : ∃ y, IntKind.u32.wrap y1 = y := ⟨_, rfl⟩
  have my2 : y2 = (y1) % 4294967296 := by rw [← hy2, IntKind.wrap_u32]
  have ey2 : y2 = y1 := by omega
  obtain ⟨y3, hy3⟩ : ∃ y, IntKind.u32.wrap (y2 * 3329) = y := ⟨_, rfl⟩
  have my3 : y3 = (y2 * 3329) % 4294967296 := by rw [← hy3, IntKind.wrap_u32]
  have ey3 : y3 = y2 * 3329 := by omega
  obtain ⟨y4, hy4⟩ : ∃ y, IntKind.u32.wrap (16 + y3) = y := ⟨_, rfl⟩
  have my4 : y4 = (16 + y3) % 4294967296 := by rw [← hy4, IntKind.wrap_u32]
  have ey4 : y4 = 16 + y3 := by omega
  obtain ⟨y5, hy5⟩ : ∃ y, y4 / 32 = y := ⟨_, rfl⟩
  have my5 : y5 = y4 / 32 := hy5.symm
  obtain ⟨y6, hy6⟩ : ∃ y, IntKind.i16.wrap y5 = y := ⟨_, rfl⟩
  have my6 : y6 = (y5 + 32768) % 65536 - 32768 := by rw [← hy6, wrap_i16']
  have ey6 : y6 = y5 := by omega
  exact ⟨y1, y2, y3, y4, y5, y6, hy1, hy2, hy3, hy4, hy5, hy6, my2.symm, my3.symm, my4.symm, by rw [hg, ey6, my5, ey4, ey3, ey2, my1]⟩
theorem out_ar0 (x0 g : Int) (h_x0 : 0 ≤ x0 ∧ x0 ≤ 255) (hg : g = x0) : x0 = g := by
  subst hg; first | rfl | omega
theorem out_ar1 (x0 x1 g : Int) (h_x0 : 0 ≤ x0 ∧ x0 ≤ 255) (h_x1 : 0 ≤ x1 ∧ x1 ≤ 255) (hg : g = x0 / 32 + x1 * 8 % 256) : ∃ y1 y2 y3 y4 : Int, x0 / 32 = y1 ∧ IntKind.u8.wrap (x1 * 8) = y2 ∧ IntKind.u16.wrap y2 = y3 ∧ bits .or .u16 y1 y3 = y4 ∧ (x1 * 8) % 256 = y2 ∧ (y2) % 65536 = y3 ∧ y4 = g := by
  obtain ⟨y1, hy1⟩ : ∃ y, x0 / 32 = y := ⟨_, rfl⟩
  have my1 : y1 = x0 / 32 := hy1.symm
  obtain ⟨y2, hy2⟩ : ∃ y, IntKind.u8.wrap (x1 * 8) = y := ⟨_, rfl⟩
  have my2 : y2 = (x1 * 8) % 256 := by rw [← hy2, IntKind.wrap_u8]
  obtain ⟨y3, hy3⟩ : ∃ y, IntKind.u16.wrap y2 = y := ⟨_, rfl⟩
  have my3 : y3 = (y2) % 65536 := by rw [← hy3, wrap_u16']
  obtain ⟨y4, hy4⟩ : ∃ y, bits .or .u16 y1 y3 = y := ⟨_, rfl⟩
  have my4 : y4 = y1 + y3 := by rw [← hy4]; exact or_u16 y1 y3 3 (y3 / 8) (by omega) (by omega) (by omega) (by omega) (by omega)
  exact ⟨y1, y2, y3, y4, hy1, hy2, hy3, hy4, my2.symm, my3.symm, by rw [hg]; omega⟩
theorem out_ar2 (x1 g : Int) (h_x1 : 0 ≤ x1 ∧ x1 ≤ 255) (hg : g = x1 / 4) : ∃ y5 : Int, x1 / 4 = y5 ∧ y5 = g := by
  obtain ⟨y5, hy5⟩ : ∃ y, x1 / 4 = y := ⟨_, rfl⟩
  have my5 : y5 = x1 / 4 := hy5.symm
  exact ⟨y5, hy5, by rw [hg]; omega⟩
theorem out_ar3 (x1 x2 g : Int) (h_x1 : 0 ≤ x1 ∧ x1 ≤ 255) (h_x2 : 0 ≤ x2 ∧ x2 ≤ 255) (hg : g = x1 / 128 + x2 * 2 % 256) : ∃ y6 y7 y8 y9 : Int, x1 / 128 = y6 ∧ IntKind.u8.wrap (x2 * 2) = y7 ∧ IntKind.u16.wrap y7 = y8 ∧ bits .or .u16 y6 y8 = y9 ∧ (x2 * 2) % 256 = y7 ∧ (y7) % 65536 = y8 ∧ y9 = g := by
  obtain ⟨y6, hy6⟩ : ∃ y, x1 / 128 = y := ⟨_, rfl⟩
  have my6 : y6 = x1 / 128 := hy6.symm
  obtain ⟨y7, hy7⟩ : ∃ y, IntKind.u8.wrap (x2 * 2) = y := ⟨_, rfl⟩
  have my7 : y7 = (x2 * 2) % 256 := by rw [← hy7, IntKind.wrap_u8]
  obtain ⟨y8, hy8⟩ : ∃ y, IntKind.u16.wrap y7 = y := ⟨_, rfl⟩
  have my8 : y8 = (y7) % 65536 := by rw [← hy8, wrap_u16']
  obtain ⟨y9, hy9⟩ : ∃ y, bits .or .u16 y6 y8 = y := ⟨_, rfl⟩
  have my9 : y9 = y6 + y8 := by rw [← hy9]; exact or_u16 y6 y8 1 (y8 / 2) (by omega) (by omega) (by omega) (by omega) (by omega)
  exact ⟨y6, y7, y8, y9, hy6, hy7, hy8, hy9, my7.symm, my8.symm, by rw [hg]; omega⟩
theorem out_ar4 (x2 x3 g : Int) (h_x2 : 0 ≤ x2 ∧ x2 ≤ 255) (h_x3 : 0 ≤ x3 ∧ x3 ≤ 255) (hg : g = x2 / 16 + x3 * 16 % 256) : ∃ y10 y11 y12 y13 : Int, x2 / 16 = y10 ∧ IntKind.u8.wrap (x3 * 16) = y11 ∧ IntKind.u16.wrap y11 = y12 ∧ bits .or .u16 y10 y12 = y13 ∧ (x3 * 16) % 256 = y11 ∧ (y11) % 65536 = y12 ∧ y13 = g := by
  obtain ⟨y10, hy10⟩ : ∃ y, x2 / 16 = y := ⟨_, rfl⟩
  have my10 : y10 = x2 / 16 := hy10.symm
  obtain ⟨y11, hy11⟩ : ∃ y, IntKind.u8.wrap (x3 * 16) = y := ⟨_, rfl⟩
  have my11 : y11 = (x3 * 16) % 256 := by rw [← hy11, IntKind.wrap_u8]
  obtain ⟨y12, hy12⟩ : ∃ y, IntKind.u16.wrap y11 = y := ⟨_, rfl⟩
  have my12 : y12 = (y11) % 65536 := by rw [← hy12, wrap_u16']
  obtain ⟨y13, hy13⟩ : ∃ y, bits .or .u16 y10 y12 = y := ⟨_, rfl⟩
  have my13 : y13 = y10 + y12 := by rw [← hy13]; exact or_u16 y10 y12 4 (y12 / 16) (by omega) (by omega) (by omega) (by omega) (by omega)
  exact ⟨y10, y11, y12, y13, hy10, hy11, hy12, hy13, my11.symm, my12.symm, by rw [hg]; omega⟩
theorem out_ar5 (x3 g : Int) (h_x3 : 0 ≤ x3 ∧ x3 ≤ 255) (hg : g = x3 / 2) : ∃ y14 : Int, x3 / 2 = y14 ∧ y14 = g := by
  obtain ⟨y14, hy14⟩ : ∃ y, x3 / 2 = y := ⟨_, rfl⟩
  have my14 : y14 = x3 / 2 := hy14.symm
  exact ⟨y14, hy14, by rw [hg]; omega⟩
theorem out_ar6 (x3 x4 g : Int) (h_x3 : 0 ≤ x3 ∧ x3 ≤ 255) (h_x4 : 0 ≤ x4 ∧ x4 ≤ 255) (hg : g = x3 / 64 + x4 * 4 % 256) : ∃ y15 y16 y17 y18 : Int, x3 / 64 = y15 ∧ IntKind.u8.wrap (x4 * 4) = y16 ∧ IntKind.u16.wrap y16 = y17 ∧ bits .or .u16 y15 y17 = y18 ∧ (x4 * 4) % 256 = y16 ∧ (y16) % 65536 = y17 ∧ y18 = g := by
  obtain ⟨y15, hy15⟩ : ∃ y, x3 / 64 = y := ⟨_, rfl⟩
  have my15 : y15 = x3 / 64 := hy15.symm
  obtain ⟨y16, hy16⟩ : ∃ y, IntKind.u8.wrap (x4 * 4) = y := ⟨_, rfl⟩
  have my16 : y16 = (x4 * 4) % 256 := by rw [← hy16, IntKind.wrap_u8]
  obtain ⟨y17, hy17⟩ : ∃ y, IntKind.u16.wrap y16 = y := ⟨_, rfl⟩
  have my17 : y17 = (y16) % 65536 := by rw [← hy17, wrap_u16']
  obtain ⟨y18, hy18⟩ : ∃ y, bits .or .u16 y15 y17 = y := ⟨_, rfl⟩
  have my18 : y18 = y15 + y17 := by rw [← hy18]; exact or_u16 y15 y17 2 (y17 / 4) (by omega) (by omega) (by omega) (by omega) (by omega)
  exact ⟨y15, y16, y17, y18, hy15, hy16, hy17, hy18, my16.symm, my17.symm, by rw [hg]; omega⟩
theorem out_ar7 (x4 g : Int) (h_x4 : 0 ≤ x4 ∧ x4 ≤ 255) (hg : g = x4 / 8) : ∃ y19 : Int, x4 / 8 = y19 ∧ y19 = g := by
  obtain ⟨y19, hy19⟩ : ∃ y, x4 / 8 = y := ⟨_, rfl⟩
  have my19 : y19 = x4 / 8 := hy19.symm
  exact ⟨y19, hy19, by rw [hg]; omega⟩
set_option maxRecDepth 100000 in
set_option maxHeartbeats 20000000 in
theorem any (bs bd cp : Nat) (w0 w : World) (Td : TypeId) (f G Z : Nat → Int) (hs0 : RowK w bs 160 .u8 f) (hd0 : Blk w bd Td (cellsF 256 (ints .i16 Z))) (hne : bs ≠ bd) (hx0 : Ext w0 w) (hsz : w0.heap.size ≤ bd) (hf : ∀ i, i < 160 → 0 ≤ f i ∧ f i ≤ 255)
    (hG0 : ∀ r, r < 32 → G (8 * r + 0) = (16 + (f (5 * r + 0)) % 32 * 3329) / 32) (hG1 : ∀ r, r < 32 → G (8 * r + 1) = (16 + (f (5 * r + 0) / 32 + f (5 * r + 1) * 8 % 256) % 32 * 3329) / 32) (hG2 : ∀ r, r < 32 → G (8 * r + 2) = (16 + (f (5 * r + 1) / 4) % 32 * 3329) / 32) (hG3 : ∀ r, r < 32 → G (8 * r + 3) = (16 + (f (5 * r + 1) / 128 + f (5 * r + 2) * 2 % 256) % 32 * 3329) / 32) (hG4 : ∀ r, r < 32 → G (8 * r + 4) = (16 + (f (5 * r + 2) / 16 + f (5 * r + 3) * 16 % 256) % 32 * 3329) / 32) (hG5 : ∀ r, r < 32 → G (8 * r + 5) = (16 + (f (5 * r + 3) / 2) % 32 * 3329) / 32) (hG6 : ∀ r, r < 32 → G (8 * r + 6) = (16 + (f (5 * r + 3) / 64 + f (5 * r + 4) * 4 % 256) % 32 * 3329) / 32) (hG7 : ∀ r, r < 32 → G (8 * r + 7) = (16 + (f (5 * r + 4) / 8) % 32 * 3329) / 32) :
    Calls Try.prog 36 #[.pointer (some ⟨bd, 0, none⟩), .slice (some ⟨bs, 0, none⟩) 160 cp, .int .i64 5] w fun e w' => e = .returned (.tuple #[]) ∧ Ext w0 w' ∧ Blk w' bd Td (cellsF 256 (ints .i16 G)) := by
  have ls := hs0.1
  have ld := hd0.lt
  have HH := Lib.hid hd0
  have HS := Lib.hid hs0
  clear hd0 hs0
  go_enter Try.func36, Try.ntmps36
  go_wp2_with (refine wpList_allocA 56 _ _ zeroT rfl rfl ?_; simp only [Act.put, List.setIfInBounds_toArray, List.set]; intro w1 bt ht x1 kt)
  have hs := HS.out.ext x1
  have hd := HH.out.ext x1
  have n1 : bs ≠ bt := by omega
  have n2 : bd ≠ bt := by omega
  have hw0 : w0.heap.size ≤ bt := by have := hx0.size; omega
  have HX := Lib.hid (Ext.trans hx0 x1)
  clear x1 hx0
  go_loopw [9, 8] (fun x y wr => ∃ (r : Nat) (A : Nat → Int), r ≤ 32 ∧ x = .int .i64 (r : Nat) ∧ y = .int .i64 (5 * r : Nat) ∧ Only2 bt bd w1 wr ∧ Blk wr bt 56 (cellsF 8 (ints .u16 A)) ∧ Blk wr bd Td (cellsF 256 (upto (8 * r) (ints .i16 G) (ints .i16 Z)))) (fun x _ _ => 32 - (intOf x).toNat)
  case atStart => exact ⟨0, _, by omega, rfl, rfl, Only2.refl _ _ _, kt, by rw [upto_zero]; exact hd⟩
  case round =>
    obtain ⟨r, A, hr, rfl, rfl, hon, hbt, hbk⟩ := hrel
    by_cases hl : r < 32
    · clear kt hd HH HS
      obtain ⟨b0, eb0⟩ : ∃ p : Nat, p = 5 * r + 0 := ⟨_, rfl⟩
      obtain ⟨b1, eb1⟩ : ∃ p : Nat, p = 5 * r + 1 := ⟨_, rfl⟩
      obtain ⟨b2, eb2⟩ : ∃ p : Nat, p = 5 * r + 2 := ⟨_, rfl⟩
      obtain ⟨b3, eb3⟩ : ∃ p : Nat, p = 5 * r + 3 := ⟨_, rfl⟩
      obtain ⟨b4, eb4⟩ : ∃ p : Nat, p = 5 * r + 4 := ⟨_, rfl⟩
      have hrow := hon.row n1 hne hs
      obtain ⟨la0, lb0⟩ := hf b0 (by omega)
      obtain ⟨la1, lb1⟩ := hf b1 (by omega)
      obtain ⟨la2, lb2⟩ := hf b2 (by omega)
      obtain ⟨la3, lb3⟩ := hf b3 (by omega)
      obtain ⟨la4, lb4⟩ := hf b4 (by omega)
      have rc0 : ∀ w2, RowK w2 bs 160 .u8 f → w2.cell? ⟨bs, b0, none⟩ = some (.int .u8 (f b0)) := fun w2 h => h.2 b0 (by omega)
      have rc1 : ∀ w2, RowK w2 bs 160 .u8 f → w2.cell? ⟨bs, b1, none⟩ = some (.int .u8 (f b1)) := fun w2 h => h.2 b1 (by omega)
      have rc2 : ∀ w2, RowK w2 bs 160 .u8 f → w2.cell? ⟨bs, b2, none⟩ = some (.int .u8 (f b2)) := fun w2 h => h.2 b2 (by omega)
      have rc3 : ∀ w2, RowK w2 bs 160 .u8 f → w2.cell? ⟨bs, b3, none⟩ = some (.int .u8 (f b3)) := fun w2 h => h.2 b3 (by omega)
      have rc4 : ∀ w2, RowK w2 bs 160 .u8 f → w2.cell? ⟨bs, b4, none⟩ = some (.int .u8 (f b4)) := fun w2 h => h.2 b4 (by omega)
      have gg0 : G (8 * r + 0) = (16 + (f b0) % 32 * 3329) / 32 := by rw [hG0 r hl]; simp only [eb0, eb1, eb2, eb3, eb4]
      have gg1 : G (8 * r + 1) = (16 + (f b0 / 32 + f b1 * 8 % 256) % 32 * 3329) / 32 := by rw [hG1 r hl]; simp only [eb0, eb1, eb2, eb3, eb4]
      have gg2 : G (8 * r + 2) = (16 + (f b1 / 4) % 32 * 3329) / 32 := by rw [hG2 r hl]; simp only [eb0, eb1, eb2, eb3, eb4]
      have gg3 : G (8 * r + 3) = (16 + (f b1 / 128 + f b2 * 2 % 256) % 32 * 3329) / 32 := by rw [hG3 r hl]; simp only [eb0, eb1, eb2, eb3, eb4]
      have gg4 : G (8 * r + 4) = (16 + (f b2 / 16 + f b3 * 16 % 256) % 32 * 3329) / 32 := by rw [hG4 r hl]; simp only [eb0, eb1, eb2, eb3, eb4]
      have gg5 : G (8 * r + 5) = (16 + (f b3 / 2) % 32 * 3329) / 32 := by rw [hG5 r hl]; simp only [eb0, eb1, eb2, eb3, eb4]
      have gg6 : G (8 * r + 6) = (16 + (f b3 / 64 + f b4 * 4 % 256) % 32 * 3329) / 32 := by rw [hG6 r hl]; simp only [eb0, eb1, eb2, eb3, eb4]
      have gg7 : G (8 * r + 7) = (16 + (f b4 / 8) % 32 * 3329) / 32 := by rw [hG7 r hl]; simp only [eb0, eb1, eb2, eb3, eb4]
      generalize f b0 = x0 at *
      generalize f b1 = x1 at *
      generalize f b2 = x2 at *
      generalize f b3 = x3 at *
      generalize f b4 = x4 at *
      obtain ⟨g0, eg0⟩ : ∃ g : Int, g = x0 := ⟨_, rfl⟩
      rw [← eg0] at gg0
      obtain ⟨g1, eg1⟩ : ∃ g : Int, g = x0 / 32 + x1 * 8 % 256 := ⟨_, rfl⟩
      rw [← eg1] at gg1
      obtain ⟨g2, eg2⟩ : ∃ g : Int, g = x1 / 4 := ⟨_, rfl⟩
      rw [← eg2] at gg2
      obtain ⟨g3, eg3⟩ : ∃ g : Int, g = x1 / 128 + x2 * 2 % 256 := ⟨_, rfl⟩
      rw [← eg3] at gg3
      obtain ⟨g4, eg4⟩ : ∃ g : Int, g = x2 / 16 + x3 * 16 % 256 := ⟨_, rfl⟩
      rw [← eg4] at gg4
      obtain ⟨g5, eg5⟩ : ∃ g : Int, g = x3 / 2 := ⟨_, rfl⟩
      rw [← eg5] at gg5
      obtain ⟨g6, eg6⟩ : ∃ g : Int, g = x3 / 64 + x4 * 4 % 256 := ⟨_, rfl⟩
      rw [← eg6] at gg6
      obtain ⟨g7, eg7⟩ : ∃ g : Int, g = x4 / 8 := ⟨_, rfl⟩
      rw [← eg7] at gg7
      have fing0 := out_ar0 x0 g0 ⟨la0, lb0⟩ eg0
      obtain ⟨y1, y2, y3, y4, hy1, hy2, hy3, hy4, my2, my3, fing1⟩ := out_ar1 x0 x1 g1 ⟨la0, lb0⟩ ⟨la1, lb1⟩ eg1
      obtain ⟨y5, hy5, fing2⟩ := out_ar2 x1 g2 ⟨la1, lb1⟩ eg2
      obtain ⟨y6, y7, y8, y9, hy6, hy7, hy8, hy9, my7, my8, fing3⟩ := out_ar3 x1 x2 g3 ⟨la1, lb1⟩ ⟨la2, lb2⟩ eg3
      obtain ⟨y10, y11, y12, y13, hy10, hy11, hy12, hy13, my11, my12, fing4⟩ := out_ar4 x2 x3 g4 ⟨la2, lb2⟩ ⟨la3, lb3⟩ eg4
      obtain ⟨y14, hy14, fing5⟩ := out_ar5 x3 g5 ⟨la3, lb3⟩ eg5
      obtain ⟨y15, y16, y17, y18, hy15, hy16, hy17, hy18, my16, my17, fing6⟩ := out_ar6 x3 x4 g6 ⟨la3, lb3⟩ ⟨la4, lb4⟩ eg6
      obtain ⟨y19, hy19, fing7⟩ := out_ar7 x4 g7 ⟨la4, lb4⟩ eg7
      have wd_u16_x0 : IntKind.u16.wrap x0 = x0 := by rw [wrap_u16']; omega
      have wm_u16_x0 : x0 % 65536 = x0 := by omega
      have wd_u16_x1 : IntKind.u16.wrap x1 = x1 := by rw [wrap_u16']; omega
      have wm_u16_x1 : x1 % 65536 = x1 := by omega
      have wd_u16_x2 : IntKind.u16.wrap x2 = x2 := by rw [wrap_u16']; omega
      have wm_u16_x2 : x2 % 65536 = x2 := by omega
      have wd_u16_x3 : IntKind.u16.wrap x3 = x3 := by rw [wrap_u16']; omega
      have wm_u16_x3 : x3 % 65536 = x3 := by omega
      have wd_u16_x4 : IntKind.u16.wrap x4 = x4 := by rw [wrap_u16']; omega
      have wm_u16_x4 : x4 % 65536 = x4 := by omega
      have bg0 : 0 ≤ g0 ∧ g0 ≤ 65535 := by omega
      have bg1 : 0 ≤ g1 ∧ g1 ≤ 65535 := by omega
      have bg2 : 0 ≤ g2 ∧ g2 ≤ 65535 := by omega
      have bg3 : 0 ≤ g3 ∧ g3 ≤ 65535 := by omega
      have bg4 : 0 ≤ g4 ∧ g4 ≤ 65535 := by omega
      have bg5 : 0 ≤ g5 ∧ g5 ≤ 65535 := by omega
      have bg6 : 0 ≤ g6 ∧ g6 ≤ 65535 := by omega
      have bg7 : 0 ≤ g7 ∧ g7 ≤ 65535 := by omega
      have FIN0 := Lib.hid fing0; clear fing0 eg0
      have FIN1 := Lib.hid fing1; clear fing1 eg1
      have FIN2 := Lib.hid fing2; clear fing2 eg2
      have FIN3 := Lib.hid fing3; clear fing3 eg3
      have FIN4 := Lib.hid fing4; clear fing4 eg4
      have FIN5 := Lib.hid fing5; clear fing5 eg5
      have FIN6 := Lib.hid fing6; clear fing6 eg6
      have FIN7 := Lib.hid fing7; clear fing7 eg7
      obtain ⟨V, eV⟩ : ∃ V : Nat → Int, V = fun k => if k = 0 then g0 else if k = 1 then g1 else if k = 2 then g2 else if k = 3 then g3 else if k = 4 then g4 else if k = 5 then g5 else if k = 6 then g6 else g7 := ⟨_, rfl⟩
      have v0 : V 0 = g0 := by rw [eV]; rfl
      have v1 : V 1 = g1 := by rw [eV]; rfl
      have v2 : V 2 = g2 := by rw [eV]; rfl
      have v3 : V 3 = g3 := by rw [eV]; rfl
      have v4 : V 4 = g4 := by rw [eV]; rfl
      have v5 : V 5 = g5 := by rw [eV]; rfl
      have v6 : V 6 = g6 := by rw [eV]; rfl
      have v7 : V 7 = g7 := by rw [eV]; rfl
      have hVb : ∀ j, j < 8 → 0 ≤ V j ∧ V j ≤ 65535 := fun j hj => by
        have h : j = 0 ∨ j = 1 ∨ j = 2 ∨ j = 3 ∨ j = 4 ∨ j = 5 ∨ j = 6 ∨ j = 7 := by omega
        rcases h with h | h | h | h | h | h | h | h <;> rw [h]
        · rw [v0]; exact bg0
        · rw [v1]; exact bg1
        · rw [v2]; exact bg2
        · rw [v3]; exact bg3
        · rw [v4]; exact bg4
        · rw [v5]; exact bg5
        · rw [v6]; exact bg6
        · rw [v7]; exact bg7
      have hVG : ∀ j, j < 8 → G (8 * r + j) = (16 + V j % 32 * 3329) / 32 := fun j hj => by
        have h : j = 0 ∨ j = 1 ∨ j = 2 ∨ j = 3 ∨ j = 4 ∨ j = 5 ∨ j = 6 ∨ j = 7 := by omega
        rcases h with h | h | h | h | h | h | h | h <;> rw [h]
        · rw [v0, gg0]
        · rw [v1, gg1]
        · rw [v2, gg2]
        · rw [v3, gg3]
        · rw [v4, gg4]
        · rw [v5, gg5]
        · rw [v6, gg6]
        · rw [v7, gg7]
      have HV := Lib.hid (⟨hVb, hVG⟩ : _ ∧ _)
      have VV0 := Lib.hid v0; clear v0 gg0 bg0
      have VV1 := Lib.hid v1; clear v1 gg1 bg1
      have VV2 := Lib.hid v2; clear v2 gg2 bg2
      have VV3 := Lib.hid v3; clear v3 gg3 bg3
      have VV4 := Lib.hid v4; clear v4 gg4 bg4
      have VV5 := Lib.hid v5; clear v5 gg5 bg5
      have VV6 := Lib.hid v6; clear v6 gg6 bg6
      have VV7 := Lib.hid v7; clear v7 gg7 bg7
      clear hVb hVG eV
      have zb0 : 5 * (r : Int) = (b0 : Int) := by omega
      have tb0 : (b0 : Int) < 160 := by omega
      have zb1 : (b0 : Int) + 1 = (b1 : Int) := by omega
      have ub1 : IntKind.i64.wrap (b1 : Int) = (b1 : Int) := by rw [IntKind.wrap_i64]; omega
      have tb1 : (b1 : Int) < 160 := by omega
      have zb2 : (b0 : Int) + 2 = (b2 : Int) := by omega
      have ub2 : IntKind.i64.wrap (b2 : Int) = (b2 : Int) := by rw [IntKind.wrap_i64]; omega
      have tb2 : (b2 : Int) < 160 := by omega
      have zb3 : (b0 : Int) + 3 = (b3 : Int) := by omega
      have ub3 : IntKind.i64.wrap (b3 : Int) = (b3 : Int) := by rw [IntKind.wrap_i64]; omega
      have tb3 : (b3 : Int) < 160 := by omega
      have zb4 : (b0 : Int) + 4 = (b4 : Int) := by omega
      have ub4 : IntKind.i64.wrap (b4 : Int) = (b4 : Int) := by rw [IntKind.wrap_i64]; omega
      have tb4 : (b4 : Int) < 160 := by omega
      have Eb0 := Lib.hid eb0; clear eb0
      have Eb1 := Lib.hid eb1; clear eb1
      have Eb2 := Lib.hid eb2; clear eb2
      have Eb3 := Lib.hid eb3; clear eb3
      have Eb4 := Lib.hid eb4; clear eb4
      have RC0 := Lib.hid rc0; clear rc0
      have RC1 := Lib.hid rc1; clear rc1
      have RC2 := Lib.hid rc2; clear rc2
      have RC3 := Lib.hid rc3; clear rc3
      have RC4 := Lib.hid rc4; clear rc4
      have ca0 := RC0.out wr hrow
      have ca1 := RC1.out wr hrow
      have ca2 := RC2.out wr hrow
      have ca3 := RC3.out wr hrow
      have ca4 := RC4.out wr hrow
      have on0 : Only bt wr wr := Only.refl bt wr
      have kk0 := hbt
      have HK := Lib.hid (⟨hon, hbk, hs⟩ : _ ∧ _ ∧ _)
      have HF := Lib.hid hf
      clear hs hf hbk hon hbt hG0 hG1 hG2 hG3 hG4 hG5 hG6 hG7
      go_wp2_with (first | (refine wpList_storeI szU (.tmp 69) (.tmp 68) bt 0 .u16 x0 kk0 (by omega) rfl rfl rfl rfl ?_; intro w2 o1 kk1; have on1 := on0.trans o1; clear ca0 ca1 ca2 ca3 ca4; have ca0 := RC0.out w2 (hrow.only n1 on1); have ca1 := RC1.out w2 (hrow.only n1 on1); have ca2 := RC2.out w2 (hrow.only n1 on1); have ca3 := RC3.out w2 (hrow.only n1 on1); have ca4 := RC4.out w2 (hrow.only n1 on1); simp only [Act.put]))
      go_still_tail 15, (by kernel_rfl)
      refine wpList_storeI szU (.tmp 84) (.tmp 83) bt 1 .u16 y4 kk1.drew (by omega) rfl rfl rfl rfl ?_
      intro w3 o2 kk2
      have on2 := on1.drew.trans o2
      clear ca0 ca1 ca2 ca3 ca4
      have ca0 := RC0.out w3 (hrow.only n1 on2)
      have ca1 := RC1.out w3 (hrow.only n1 on2)
      have ca2 := RC2.out w3 (hrow.only n1 on2)
      have ca3 := RC3.out w3 (hrow.only n1 on2)
      have ca4 := RC4.out w3 (hrow.only n1 on2)
      simp only [Act.put]
      clear hy1 hy2 hy3 hy4 my2 my3
      go_wp2_with (first | (refine wpList_storeI szU (.tmp 92) (.tmp 91) bt 2 .u16 y5 kk2 (by omega) rfl rfl rfl rfl ?_; intro w4 o3 kk3; have on3 := on2.trans o3; clear ca0 ca1 ca2 ca3 ca4; have ca0 := RC0.out w4 (hrow.only n1 on3); have ca1 := RC1.out w4 (hrow.only n1 on3); have ca2 := RC2.out w4 (hrow.only n1 on3); have ca3 := RC3.out w4 (hrow.only n1 on3); have ca4 := RC4.out w4 (hrow.only n1 on3); simp only [Act.put]))
      go_still_tail 16, (by kernel_rfl)
      refine wpList_storeI szU (.tmp 108) (.tmp 107) bt 3 .u16 y9 kk3.drew (by omega) rfl rfl rfl rfl ?_
      intro w5 o4 kk4
      have on4 := on3.drew.trans o4
      clear ca0 ca1 ca2 ca3 ca4
      have ca0 := RC0.out w5 (hrow.only n1 on4)
      have ca1 := RC1.out w5 (hrow.only n1 on4)
      have ca2 := RC2.out w5 (hrow.only n1 on4)
      have ca3 := RC3.out w5 (hrow.only n1 on4)
      have ca4 := RC4.out w5 (hrow.only n1 on4)
      simp only [Act.put]
      clear hy6 hy7 hy8 hy9 my7 my8
      go_wp2_with fail
      go_still_tail 16, (by kernel_rfl)
      refine wpList_storeI szU (.tmp 124) (.tmp 123) bt 4 .u16 y13 kk4.drew (by omega) rfl rfl rfl rfl ?_
      intro w6 o5 kk5
      have on5 := on4.drew.trans o5
      clear ca0 ca1 ca2 ca3 ca4
      have ca0 := RC0.out w6 (hrow.only n1 on5)
      have ca1 := RC1.out w6 (hrow.only n1 on5)
      have ca2 := RC2.out w6 (hrow.only n1 on5)
      have ca3 := RC3.out w6 (hrow.only n1 on5)
      have ca4 := RC4.out w6 (hrow.only n1 on5)
      simp only [Act.put]
      clear hy10 hy11 hy12 hy13 my11 my12
      go_wp2_with (first | (refine wpList_storeI szU (.tmp 132) (.tmp 131) bt 5 .u16 y14 kk5 (by omega) rfl rfl rfl rfl ?_; intro w7 o6 kk6; have on6 := on5.trans o6; clear ca0 ca1 ca2 ca3 ca4; have ca0 := RC0.out w7 (hrow.only n1 on6); have ca1 := RC1.out w7 (hrow.only n1 on6); have ca2 := RC2.out w7 (hrow.only n1 on6); have ca3 := RC3.out w7 (hrow.only n1 on6); have ca4 := RC4.out w7 (hrow.only n1 on6); simp only [Act.put]))
      go_still_tail 16, (by kernel_rfl)
      refine wpList_storeI szU (.tmp 148) (.tmp 147) bt 6 .u16 y18 kk6.drew (by omega) rfl rfl rfl rfl ?_
      intro w8 o7 kk7
      have on7 := on6.drew.trans o7
      clear ca0 ca1 ca2 ca3 ca4
      have ca0 := RC0.out w8 (hrow.only n1 on7)
      have ca1 := RC1.out w8 (hrow.only n1 on7)
      have ca2 := RC2.out w8 (hrow.only n1 on7)
      have ca3 := RC3.out w8 (hrow.only n1 on7)
      have ca4 := RC4.out w8 (hrow.only n1 on7)
      simp only [Act.put]
      clear hy15 hy16 hy17 hy18 my16 my17
      go_wp2_with (first | (refine wpList_storeI szU (.tmp 156) (.tmp 155) bt 7 .u16 y19 kk7 (by omega) rfl rfl rfl rfl ?_; intro w9 o8 kk8; have on8 := on7.trans o8; clear ca0 ca1 ca2 ca3 ca4; have ca0 := RC0.out w9 (hrow.only n1 on8); have ca1 := RC1.out w9 (hrow.only n1 on8); have ca2 := RC2.out w9 (hrow.only n1 on8); have ca3 := RC3.out w9 (hrow.only n1 on8); have ca4 := RC4.out w9 (hrow.only n1 on8); simp only [Act.put]))
      have hjz : decide ((r : Int) < 32) = true := decide_eq_true (by omega)
      try rw [hjz]
      clear hjz
      have kt : Blk w9 bt 56 (cellsF 8 (ints .u16 V)) := kk8.congr fun x hx => by
        unfold ints
        by_cases c7 : x = 7
        · rw [if_pos c7, c7, VV7.out, FIN7.out]
        rw [if_neg c7]
        by_cases c6 : x = 6
        · rw [if_pos c6, c6, VV6.out, FIN6.out]
        rw [if_neg c6]
        by_cases c5 : x = 5
        · rw [if_pos c5, c5, VV5.out, FIN5.out]
        rw [if_neg c5]
        by_cases c4 : x = 4
        · rw [if_pos c4, c4, VV4.out, FIN4.out]
        rw [if_neg c4]
        by_cases c3 : x = 3
        · rw [if_pos c3, c3, VV3.out, FIN3.out]
        rw [if_neg c3]
        by_cases c2 : x = 2
        · rw [if_pos c2, c2, VV2.out, FIN2.out]
        rw [if_neg c2]
        by_cases c1 : x = 1
        · rw [if_pos c1, c1, VV1.out, FIN1.out]
        rw [if_neg c1]
        by_cases c0 : x = 0
        · rw [if_pos c0, c0, VV0.out, FIN0.out]
        rw [if_neg c0]
        omega
      have hbk := on8.blk n2 HK.out.2.1
      have hon := HK.out.1.trans (Only2.of1 (c := bd) on8)
      clear kk0 kk1 kk2 kk3 kk4 kk5 kk6 kk7 kk8  ca0 ca1 ca2 ca3 ca4 hrow
      go_loopw [10] (fun y wr => ∃ j : Nat, j ≤ 8 ∧ y = .int .i64 (j : Nat) ∧ Only2 bt bd w1 wr ∧ Blk wr bt 56 (cellsF 8 (ints .u16 V)) ∧ Blk wr bd Td (cellsF 256 (upto (8 * r + j) (ints .i16 G) (ints .i16 Z)))) (fun y _ => 8 - (intOf y).toNat)
      case atStart => exact ⟨0, by omega, rfl, hon, kt, hbk⟩
      case round =>
        clear hon kt hbk
        obtain ⟨j, hj, rfl, hon, kt, hbk⟩ := hrel
        by_cases hjl : j < 8
        · obtain ⟨p, ep⟩ : ∃ p : Nat, p = 8 * r + j := ⟨_, rfl⟩
          rw [← ep] at hbk
          have hnp : p < 256 := by omega
          obtain ⟨f1, f2⟩ := HV.out.1 j hjl
          have gg : G p = (16 + V j % 32 * 3329) / 32 := by rw [ep]; exact HV.out.2 j hjl
          have cb : wr.cell? ⟨bt, j, none⟩ = some (.int .u16 (V j)) := kt.cell hjl
          have ca : wr.cell? ⟨bd, p, none⟩ = some (.int .i16 (Z p)) := by have h := hbk.cell hnp; rw [upto_at] at h; exact h
          have fp := hbk.frozen p
          generalize V j = x0 at *
          obtain ⟨g, eg⟩ : ∃ g : Int, g = G p := ⟨_, rfl⟩
          rw [← eg] at gg
          obtain ⟨y1, y2, y3, y4, y5, y6, hy1, hy2, hy3, hy4, hy5, hy6, my2, my3, my4, fing⟩ := in_ar x0 g ⟨f1, f2⟩ gg
          have HZ := Lib.hid (fing.trans eg)
          have HE := Lib.hid ep
          have z8 : 8 * (r : Int) + (j : Int) = (p : Int) := by omega
          have zb : (p : Int) < 256 := by omega
          have w8 : IntKind.i64.wrap (8 * (r : Int)) = 8 * (r : Int) := by rw [IntKind.wrap_i64]; omega
          have wp : IntKind.i64.wrap (p : Int) = (p : Int) := by rw [IntKind.wrap_i64]; omega
          have HO := Lib.hid hon
          clear gg eg fing ep hon
          go_wp2_with fail
          go_still_tail 16, (by kernel_rfl)
          go_wp2_with fail
          go_roundw
          case rel =>
            have os : Only bd wr (wr.drew.setCell ⟨bd, p, none⟩ (.int .i16 y6)) := (Only.refl bd wr).drew.setCell _
            refine ⟨j + 1, by omega, by go_num, HO.out.trans (Only2.of2 os), os.blk n2.symm kt, ?_⟩
            have h1 := Blk.setCell hbk.drew p (ints .i16 G p)
            rw [upto_set (by rfl)] at h1
            rw [show 8 * r + (j + 1) = p + 1 by have := HE.out; omega, HZ.out]
            exact h1
          case measure => simp [intOf]; omega
        · have hjN : j = 8 := by omega
          subst hjN
          go_wp2_with fail
          go_roundw
          case rel => exact ⟨r + 1, V, by omega, by go_num, by go_num, hon, kt, by rw [show 8 * (r + 1) = 8 * r + 8 by omega]; exact hbk⟩
          case measure => simp [intOf]; omega
    · have hr' : r = 32 := by omega
      subst hr'
      clear kt hd HH HS hs hf
      go_wp2_with fail
      go_end0
      refine ⟨rfl, ?_, by rw [show 8 * 32 = 256 by omega, upto_all] at hbk; exact hbk⟩
      exact hon.ext HX.out hw0 hsz
end Go.Proofs.Ytngmpnkhdjnhoaa.decomp5
