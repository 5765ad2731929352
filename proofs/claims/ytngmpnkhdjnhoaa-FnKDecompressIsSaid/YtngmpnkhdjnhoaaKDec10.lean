/- Decompress (Kyber) at d = 10. -/
import Derived.Test.YtngmpnkhdjnhoaaKTan
import Derived.Test.YtngmpnkhdjnhoaaEncK
import Derived.Test.YtngmpnkhdjnhoaaOnly2
import Derived.Test.YtngmpnkhdjnhoaaBits
import Derived.Lib.Hide
namespace Go.Proofs.Ytngmpnkhdjnhoaa.decomp10
open Go Go.Proofs Go.RowKit Go.Kd
set_option linter.unusedSimpArgs false
set_option linter.unusedVariables false
theorem szU : (Try.prog.info? 55).map (·.size) = some 1 := by kernel_rfl
theorem zeroT : (Try.prog.info? 57).map (fun i => (i.zero, i.size)) = some (some (.agg (cellsF 4 (ints .u16 fun _ => 0))), 4) := by rw [show cellsF 4 (ints .u16 fun _ => 0) = Array.replicate 4 (.int .u16 0) from (replicate_cellsF 4 _).symm]; kernel_rfl

theorem in_ar (x0 g : Int) (h_x0 : 0 ≤ x0 ∧ x0 ≤ 65535) (hg : g = (512 + x0 % 1024 * 3329) / 1024) : ∃ y1 y2 y3 y4 y5 y6 : Int, bits .and .u16 x0 1023 = y1 ∧ IntKind.u32.wrap y1 = y2 ∧ IntKind.u32.wrap (y2 * 3329) = y3 ∧ IntKind.u32.wrap (512 + y3) = y4 ∧ y4 / 1024 = y5 ∧ IntKind.i16.wrap y5 = y6 ∧ (y1) % 4294967296 = y2 ∧ (y2 * 3329) % 4294967296 = y3 ∧ (512 + y3) % 4294967296 = y4 ∧ y6 = g := by
  obtain ⟨y1, hy1⟩ : ∃ y, bits .and .u16 x0 1023 = y := ⟨_, rfl⟩
  have my1 : y1 = x0 % 1024 := by rw [← hy1]; exact and_u16 x0 10 _ (by decide) (by decide)
  obtain ⟨y2, hy2⟩ : ∃ y, IntKind.u32.wrap y1 = y := ⟨_, rfl⟩
  have my2 : y2 = (y1) % 4294967296 := by rw [← hy2, IntKind.wrap_u32]
  have ey2 : y2 = y1 := by omega
  obtain ⟨y3, hy3⟩ : ∃ y, IntKind.u32.wrap (y2 * 3329) = y := ⟨_, rfl⟩
  have my3 : y3 = (y2 * 3329) % 4294967296 := by rw [← hy3, IntKind.wrap_u32]
  have ey3 : y3 = y2 * 3329 := by omega
  obtain ⟨y4, hy4⟩ : ∃ y, IntKind.u32.wrap (512 + y3) = y := ⟨_, rfl⟩
  have my4 : y4 = (512 + y3) % 4294967296 := by rw [← hy4, IntKind.wrap_u32]
  have ey4 : y4 = 512 + y3 := by omega
  obtain ⟨y5, hy5⟩ : ∃ y, y4 / 1024 = y := ⟨_, rfl⟩
  have my5 : y5 = y4 / 1024 := hy5.symm
  obtain ⟨y6, hy6⟩ : ∃ y, IntKind.i16.wrap y5 = y := ⟨_, rfl⟩
  have my6 : y6 = (y5 + 32768) % 65536 - 32768 := by rw [← hy6, wrap_i16']
  have ey6 : y6 = y5 := by omega
  exact ⟨y1, y2, y3, y4, y5, y6, hy1, hy2, hy3, hy4, hy5, hy6, my2.symm, my3.symm, my4.symm, by rw [hg, ey6, my5, ey4, ey3, ey2, my1]⟩
theorem out_ar0 (x1 x0 g : Int) (h_x1 : 0 ≤ x1 ∧ x1 ≤ 255) (h_x0 : 0 ≤ x0 ∧ x0 ≤ 255) (hg : g = x0 + x1 * 256) : ∃ y1 y2 : Int, IntKind.u16.wrap (x1 * 256) = y1 ∧ bits .or .u16 x0 y1 = y2 ∧ (x1 * 256) % 65536 = y1 ∧ y2 = g := by
  obtain ⟨y1, hy1⟩ : ∃ y, IntKind.u16.wrap (x1 * 256) = y := ⟨_, rfl⟩
  have my1 : y1 = (x1 * 256) % 65536 := by rw [← hy1, wrap_u16']
  obtain ⟨y2, hy2⟩ : ∃ y, bits .or .u16 x0 y1 = y := ⟨_, rfl⟩
  have my2 : y2 = x0 + y1 := by rw [← hy2]; exact or_u16 x0 y1 8 (y1 / 256) (by omega) (by omega) (by omega) (by omega) (by omega)
  exact ⟨y1, y2, hy1, hy2, my1.symm, by rw [hg]; omega⟩
theorem out_ar1 (x1 x2 g : Int) (h_x1 : 0 ≤ x1 ∧ x1 ≤ 255) (h_x2 : 0 ≤ x2 ∧ x2 ≤ 255) (hg : g = x1 / 4 + x2 * 64) : ∃ y3 y4 y5 : Int, x1 / 4 = y3 ∧ IntKind.u16.wrap (x2 * 64) = y4 ∧ bits .or .u16 y3 y4 = y5 ∧ (x2 * 64) % 65536 = y4 ∧ y5 = g := by
  obtain ⟨y3, hy3⟩ : ∃ y, x1 / 4 = y := ⟨_, rfl⟩
  have my3 : y3 = x1 / 4 := hy3.symm
  obtain ⟨y4, hy4⟩ : ∃ y, IntKind.u16.wrap (x2 * 64) = y := ⟨_, rfl⟩
  have my4 : y4 = (x2 * 64) % 65536 := by rw [← hy4, wrap_u16']
  obtain ⟨y5, hy5⟩ : ∃ y, bits .or .u16 y3 y4 = y := ⟨_, rfl⟩
  have my5 : y5 = y3 + y4 := by rw [← hy5]; exact or_u16 y3 y4 6 (y4 / 64) (by omega) (by omega) (by omega) (by omega) (by omega)
  exact ⟨y3, y4, y5, hy3, hy4, hy5, my4.symm, by rw [hg]; omega⟩
theorem out_ar2 (x2 x3 g : Int) (h_x2 : 0 ≤ x2 ∧ x2 ≤ 255) (h_x3 : 0 ≤ x3 ∧ x3 ≤ 255) (hg : g = x2 / 16 + x3 * 16) : ∃ y6 y7 y8 : Int, x2 / 16 = y6 ∧ IntKind.u16.wrap (x3 * 16) = y7 ∧ bits .or .u16 y6 y7 = y8 ∧ (x3 * 16) % 65536 = y7 ∧ y8 = g := by
  obtain ⟨y6, hy6⟩ : ∃ y, x2 / 16 = y := ⟨_, rfl⟩
  have my6 : y6 = x2 / 16 := hy6.symm
  obtain ⟨y7, hy7⟩ : ∃ y, IntKind.u16.wrap (x3 * 16) = y := ⟨_, rfl⟩
  have my7 : y7 = (x3 * 16) % 65536 := by rw [← hy7, wrap_u16']
  obtain ⟨y8, hy8⟩ : ∃ y, bits .or .u16 y6 y7 = y := ⟨_, rfl⟩
  have my8 : y8 = y6 + y7 := by rw [← hy8]; exact or_u16 y6 y7 4 (y7 / 16) (by omega) (by omega) (by omega) (by omega) (by omega)
  exact ⟨y6, y7, y8, hy6, hy7, hy8, my7.symm, by rw [hg]; omega⟩
theorem out_ar3 (x3 x4 g : Int) (h_x3 : 0 ≤ x3 ∧ x3 ≤ 255) (h_x4 : 0 ≤ x4 ∧ x4 ≤ 255) (hg : g = x3 / 64 + x4 * 4) : ∃ y9 y10 y11 : Int, x3 / 64 = y9 ∧ IntKind.u16.wrap (x4 * 4) = y10 ∧ bits .or .u16 y9 y10 = y11 ∧ (x4 * 4) % 65536 = y10 ∧ y11 = g := by
  obtain ⟨y9, hy9⟩ : ∃ y, x3 / 64 = y := ⟨_, rfl⟩
  have my9 : y9 = x3 / 64 := hy9.symm
  obtain ⟨y10, hy10⟩ : ∃ y, IntKind.u16.wrap (x4 * 4) = y := ⟨_, rfl⟩
  have my10 : y10 = (x4 * 4) % 65536 := by rw [← hy10, wrap_u16']
  obtain ⟨y11, hy11⟩ : ∃ y, bits .or .u16 y9 y10 = y := ⟨_, rfl⟩
  have my11 : y11 = y9 + y10 := by rw [← hy11]; exact or_u16 y9 y10 2 (y10 / 4) (by omega) (by omega) (by omega) (by omega) (by omega)
  exact ⟨y9, y10, y11, hy9, hy10, hy11, my10.symm, by rw [hg]; omega⟩
set_option maxRecDepth 100000 in
set_option maxHeartbeats 20000000 in
theorem any (bs bd cp : Nat) (w0 w : World) (Td : TypeId) (f G Z : Nat → Int) (hs0 : RowK w bs 320 .u8 f) (hd0 : Blk w bd Td (cellsF 256 (ints .i16 Z))) (hne : bs ≠ bd) (hx0 : Ext w0 w) (hsz : w0.heap.size ≤ bd) (hf : ∀ i, i < 320 → 0 ≤ f i ∧ f i ≤ 255)
    (hG0 : ∀ r, r < 64 → G (4 * r + 0) = (512 + (f (5 * r + 0) + f (5 * r + 1) * 256) % 1024 * 3329) / 1024) (hG1 : ∀ r, r < 64 → G (4 * r + 1) = (512 + (f (5 * r + 1) / 4 + f (5 * r + 2) * 64) % 1024 * 3329) / 1024) (hG2 : ∀ r, r < 64 → G (4 * r + 2) = (512 + (f (5 * r + 2) / 16 + f (5 * r + 3) * 16) % 1024 * 3329) / 1024) (hG3 : ∀ r, r < 64 → G (4 * r + 3) = (512 + (f (5 * r + 3) / 64 + f (5 * r + 4) * 4) % 1024 * 3329) / 1024) :
    Calls Try.prog 36 #[.pointer (some ⟨bd, 0, none⟩), .slice (some ⟨bs, 0, none⟩) 320 cp, .int .i64 10] w fun e w' => e = .returned (.tuple #[]) ∧ Ext w0 w' ∧ Blk w' bd Td (cellsF 256 (ints .i16 G)) := by
  have ls := hs0.1
  have ld := hd0.lt
  have HH := Lib.hid hd0
  have HS := Lib.hid hs0
  clear hd0 hs0
  go_enter Try.func36, Try.ntmps36
  go_wp2_with (refine wpList_allocA 57 _ _ zeroT rfl rfl ?_; simp only [Act.put, List.setIfInBounds_toArray, List.set]; intro w1 bt ht x1 kt)
  have hs := HS.out.ext x1
  have hd := HH.out.ext x1
  have n1 : bs ≠ bt := by omega
  have n2 : bd ≠ bt := by omega
  have hw0 : w0.heap.size ≤ bt := by have := hx0.size; omega
  have HX := Lib.hid (Ext.trans hx0 x1)
  clear x1 hx0
  go_loopw [13, 12] (fun x y wr => ∃ (r : Nat) (A : Nat → Int), r ≤ 64 ∧ x = .int .i64 (r : Nat) ∧ y = .int .i64 (5 * r : Nat) ∧ Only2 bt bd w1 wr ∧ Blk wr bt 57 (cellsF 4 (ints .u16 A)) ∧ Blk wr bd Td (cellsF 256 (upto (4 * r) (ints .i16 G) (ints .i16 Z)))) (fun x _ _ => 64 - (intOf x).toNat)
  case atStart => exact ⟨0, _, by omega, rfl, rfl, Only2.refl _ _ _, kt, by rw [upto_zero]; exact hd⟩
  case round =>
    obtain ⟨r, A, hr, rfl, rfl, hon, hbt, hbk⟩ := hrel
    by_cases hl : r < 64
    · clear kt hd HH HS
      obtain ⟨b0, eb0⟩ : ∃ p : Nat, p = 5 * r + 0 := ⟨_, rfl⟩
      obtain ⟨b1, eb1⟩ : ∃ p : Nat, p = 5 * r + 1 := ⟨_, rfl⟩
      obtain ⟨b2, eb2⟩ : ∃ p : Nat, p = 5 * r + 2 := ⟨_, rfl⟩
      obtain ⟨b3, eb3⟩ : ∃ p : Nat, p = 5 * r + 3 := ⟨_, rfl⟩
      obtain ⟨b4, eb4⟩ : ∃ p : Nat, p = 5 * r + 4 := ⟨_, rfl⟩
      have hrow := hon.row n1 hne hs
      obtain ⟨la0, lb0⟩ := hf b0 (by omega)
      obtain ⟨la1, lb1⟩ := hf b1 (by omega)
      obtain ⟨la2, lb2⟩ := hf b2 (by omega)
      obtain ⟨la3, lb3⟩ := hf b3 (by omega)
      obtain ⟨la4, lb4⟩ := hf b4 (by omega)
      have rc0 : ∀ w2, RowK w2 bs 320 .u8 f → w2.cell? ⟨bs, b0, none⟩ = some (.int .u8 (f b0)) := fun w2 h => h.2 b0 (by omega)
      have rc1 : ∀ w2, RowK w2 bs 320 .u8 f → w2.cell? ⟨bs, b1, none⟩ = some (.int .u8 (f b1)) := fun w2 h => h.2 b1 (by omega)
      have rc2 : ∀ w2, RowK w2 bs 320 .u8 f → w2.cell? ⟨bs, b2, none⟩ = some (.int .u8 (f b2)) := fun w2 h => h.2 b2 (by omega)
      have rc3 : ∀ w2, RowK w2 bs 320 .u8 f → w2.cell? ⟨bs, b3, none⟩ = some (.int .u8 (f b3)) := fun w2 h => h.2 b3 (by omega)
      have rc4 : ∀ w2, RowK w2 bs 320 .u8 f → w2.cell? ⟨bs, b4, none⟩ = some (.int .u8 (f b4)) := fun w2 h => h.2 b4 (by omega)
      have gg0 : G (4 * r + 0) = (512 + (f b0 + f b1 * 256) % 1024 * 3329) / 1024 := by rw [hG0 r hl]; simp only [eb0, eb1, eb2, eb3, eb4]
      have gg1 : G (4 * r + 1) = (512 + (f b1 / 4 + f b2 * 64) % 1024 * 3329) / 1024 := by rw [hG1 r hl]; simp only [eb0, eb1, eb2, eb3, eb4]
      have gg2 : G (4 * r + 2) = (512 + (f b2 / 16 + f b3 * 16) % 1024 * 3329) / 1024 := by rw [hG2 r hl]; simp only [eb0, eb1, eb2, eb3, eb4]
      have gg3 : G (4 * r + 3) = (512 + (f b3 / 64 + f b4 * 4) % 1024 * 3329) / 1024 := by rw [hG3 r hl]; simp only [eb0, eb1, eb2, eb3, eb4]
      generalize f b0 = x0 at *
      generalize f b1 = x1 at *
      generalize f b2 = x2 at *
      generalize f b3 = x3 at *
      generalize f b4 = x4 at *
      obtain ⟨g0, eg0⟩ : ∃ g : Int, g = x0 + x1 * 256 := ⟨_, rfl⟩
      rw [← eg0] at gg0
      obtain ⟨g1, eg1⟩ : ∃ g : Int, g = x1 / 4 + x2 * 64 := ⟨_, rfl⟩
      rw [← eg1] at gg1
      obtain ⟨g2, eg2⟩ : ∃ g : Int, g = x2 / 16 + x3 * 16 := ⟨_, rfl⟩
      rw [← eg2] at gg2
      obtain ⟨g3, eg3⟩ : ∃ g : Int, g = x3 / 64 + x4 * 4 := ⟨_, rfl⟩
      rw [← eg3] at gg3
      obtain ⟨y1, y2, hy1, hy2, my1, fing0⟩ := out_ar0 x1 x0 g0 ⟨la1, lb1⟩ ⟨la0, lb0⟩ eg0
      obtain ⟨y3, y4, y5, hy3, hy4, hy5, my4, fing1⟩ := out_ar1 x1 x2 g1 ⟨la1, lb1⟩ ⟨la2, lb2⟩ eg1
      obtain ⟨y6, y7, y8, hy6, hy7, hy8, my7, fing2⟩ := out_ar2 x2 x3 g2 ⟨la2, lb2⟩ ⟨la3, lb3⟩ eg2
      obtain ⟨y9, y10, y11, hy9, hy10, hy11, my10, fing3⟩ := out_ar3 x3 x4 g3 ⟨la3, lb3⟩ ⟨la4, lb4⟩ eg3
      have wd_u16_x0 : IntKind.u16.wrap x0 = x0 := by rw [wrap_u16']; omega
      have wm_u16_x0 : x0 % 65536 = x0 := by omega
      have wd_u16_x1 : IntKind.u16.wrap x1 = x1 := by rw [wrap_u16']; omega
      have wm_u16_x1 : x1 % 65536 = x1 := by omega
      have wd_u16_x2 : IntKind.u16.wrap x2 = x2 := by rw [wrap_u16']; omega
      have wm_u16_x2 : x2 % 65536 = x2 := by omega
      have wd_u16_x3 : IntKind.u16.wrap x3 = x3 := by rw [wrap_u16']; omega
      have wm_u16_x3 : x3 % 65536 = x3 := by omega
      have wd_u16_x4 : IntKind.u16.wrap x4 = x4 := by rw [wrap_u16']; omega
      have wm_u16_x4 : x4 % 65536 = x4 := by omega
      have bg0 : 0 ≤ g0 ∧ g0 ≤ 65535 := by omega
      have bg1 : 0 ≤ g1 ∧ g1 ≤ 65535 := by omega
      have bg2 : 0 ≤ g2 ∧ g2 ≤ 65535 := by omega
      have bg3 : 0 ≤ g3 ∧ g3 ≤ 65535 := by omega
      have FIN0 := Lib.hid fing0; clear fing0 eg0
      have FIN1 := Lib.hid fing1; clear fing1 eg1
      have FIN2 := Lib.hid fing2; clear fing2 eg2
      have FIN3 := Lib.hid fing3; clear fing3 eg3
      obtain ⟨V, eV⟩ : ∃ V : Nat → Int, V = fun k => if k = 0 then g0 else if k = 1 then g1 else if k = 2 then g2 else g3 := ⟨_, rfl⟩
      have v0 : V 0 = g0 := by rw [eV]; rfl
      have v1 : V 1 = g1 := by rw [eV]; rfl
      have v2 : V 2 = g2 := by rw [eV]; rfl
      have v3 : V 3 = g3 := by rw [eV]; rfl
      have hVb : ∀ j, j < 4 → 0 ≤ V j ∧ V j ≤ 65535 := fun j hj => by
        have h : j = 0 ∨ j = 1 ∨ j = 2 ∨ j = 3 := by omega
        rcases h with h | h | h | h <;> rw [h]
        · rw [v0]; exact bg0
        · rw [v1]; exact bg1
        · rw [v2]; exact bg2
        · rw [v3]; exact bg3
      have hVG : ∀ j, j < 4 → G (4 * r + j) = (512 + V j % 1024 * 3329) / 1024 := fun j hj => by
        have h : j = 0 ∨ j = 1 ∨ j = 2 ∨ j = 3 := by omega
        rcases h with h | h | h | h <;> rw [h]
        · rw [v0, gg0]
        · rw [v1, gg1]
        · rw [v2, gg2]
        · rw [v3, gg3]
      have HV := Lib.hid (⟨hVb, hVG⟩ : _ ∧ _)
      have VV0 := Lib.hid v0; clear v0 gg0 bg0
      have VV1 := Lib.hid v1; clear v1 gg1 bg1
      have VV2 := Lib.hid v2; clear v2 gg2 bg2
      have VV3 := Lib.hid v3; clear v3 gg3 bg3
      clear hVb hVG eV
      have zb0 : 5 * (r : Int) = (b0 : Int) := by omega
      have tb0 : (b0 : Int) < 320 := by omega
      have zb1 : (b0 : Int) + 1 = (b1 : Int) := by omega
      have ub1 : IntKind.i64.wrap (b1 : Int) = (b1 : Int) := by rw [IntKind.wrap_i64]; omega
      have tb1 : (b1 : Int) < 320 := by omega
      have zb2 : (b0 : Int) + 2 = (b2 : Int) := by omega
      have ub2 : IntKind.i64.wrap (b2 : Int) = (b2 : Int) := by rw [IntKind.wrap_i64]; omega
      have tb2 : (b2 : Int) < 320 := by omega
      have zb3 : (b0 : Int) + 3 = (b3 : Int) := by omega
      have ub3 : IntKind.i64.wrap (b3 : Int) = (b3 : Int) := by rw [IntKind.wrap_i64]; omega
      have tb3 : (b3 : Int) < 320 := by omega
      have zb4 : (b0 : Int) + 4 = (b4 : Int) := by omega
      have ub4 : IntKind.i64.wrap (b4 : Int) = (b4 : Int) := by rw [IntKind.wrap_i64]; omega
      have tb4 : (b4 : Int) < 320 := by omega
      have Eb0 := Lib.hid eb0; clear eb0
      have Eb1 := Lib.hid eb1; clear eb1
      have Eb2 := Lib.hid eb2; clear eb2
      have Eb3 := Lib.hid eb3; clear eb3
      have Eb4 := Lib.hid eb4; clear eb4
      have RC0 := Lib.hid rc0; clear rc0
      have RC1 := Lib.hid rc1; clear rc1
      have RC2 := Lib.hid rc2; clear rc2
      have RC3 := Lib.hid rc3; clear rc3
      have RC4 := Lib.hid rc4; clear rc4
      have ca0 := RC0.out wr hrow
      have ca1 := RC1.out wr hrow
      have ca2 := RC2.out wr hrow
      have ca3 := RC3.out wr hrow
      have ca4 := RC4.out wr hrow
      have on0 : Only bt wr wr := Only.refl bt wr
      have kk0 := hbt
      have HK := Lib.hid (⟨hon, hbk, hs⟩ : _ ∧ _ ∧ _)
      have HF := Lib.hid hf
      clear hs hf hbk hon hbt hG0 hG1 hG2 hG3
      go_wp2_with fail
      go_still_tail 14, (by kernel_rfl)
      refine wpList_storeI szU (.tmp 198) (.tmp 197) bt 0 .u16 y2 kk0.drew (by omega) rfl rfl rfl rfl ?_
      intro w2 o1 kk1
      have on1 := on0.drew.trans o1
      clear ca0 ca1 ca2 ca3 ca4
      have ca0 := RC0.out w2 (hrow.only n1 on1)
      have ca1 := RC1.out w2 (hrow.only n1 on1)
      have ca2 := RC2.out w2 (hrow.only n1 on1)
      have ca3 := RC3.out w2 (hrow.only n1 on1)
      have ca4 := RC4.out w2 (hrow.only n1 on1)
      simp only [Act.put]
      clear hy1 hy2 my1
      go_wp2_with fail
      go_still_tail 16, (by kernel_rfl)
      refine wpList_storeI szU (.tmp 214) (.tmp 213) bt 1 .u16 y5 kk1.drew (by omega) rfl rfl rfl rfl ?_
      intro w3 o2 kk2
      have on2 := on1.drew.trans o2
      clear ca0 ca1 ca2 ca3 ca4
      have ca0 := RC0.out w3 (hrow.only n1 on2)
      have ca1 := RC1.out w3 (hrow.only n1 on2)
      have ca2 := RC2.out w3 (hrow.only n1 on2)
      have ca3 := RC3.out w3 (hrow.only n1 on2)
      have ca4 := RC4.out w3 (hrow.only n1 on2)
      simp only [Act.put]
      clear hy3 hy4 hy5 my4
      go_wp2_with fail
      go_still_tail 16, (by kernel_rfl)
      refine wpList_storeI szU (.tmp 230) (.tmp 229) bt 2 .u16 y8 kk2.drew (by omega) rfl rfl rfl rfl ?_
      intro w4 o3 kk3
      have on3 := on2.drew.trans o3
      clear ca0 ca1 ca2 ca3 ca4
      have ca0 := RC0.out w4 (hrow.only n1 on3)
      have ca1 := RC1.out w4 (hrow.only n1 on3)
      have ca2 := RC2.out w4 (hrow.only n1 on3)
      have ca3 := RC3.out w4 (hrow.only n1 on3)
      have ca4 := RC4.out w4 (hrow.only n1 on3)
      simp only [Act.put]
      clear hy6 hy7 hy8 my7
      go_wp2_with fail
      go_still_tail 16, (by kernel_rfl)
      refine wpList_storeI szU (.tmp 246) (.tmp 245) bt 3 .u16 y11 kk3.drew (by omega) rfl rfl rfl rfl ?_
      intro w5 o4 kk4
      have on4 := on3.drew.trans o4
      clear ca0 ca1 ca2 ca3 ca4
      have ca0 := RC0.out w5 (hrow.only n1 on4)
      have ca1 := RC1.out w5 (hrow.only n1 on4)
      have ca2 := RC2.out w5 (hrow.only n1 on4)
      have ca3 := RC3.out w5 (hrow.only n1 on4)
      have ca4 := RC4.out w5 (hrow.only n1 on4)
      simp only [Act.put]
      clear hy9 hy10 hy11 my10
      go_wp2_with fail
      have hjz : decide ((r : Int) < 64) = true := decide_eq_true (by omega)
      try rw [hjz]
      clear hjz
      have kt : Blk w5 bt 57 (cellsF 4 (ints .u16 V)) := kk4.congr fun x hx => by
        unfold ints
        by_cases c3 : x = 3
        · rw [if_pos c3, c3, VV3.out, FIN3.out]
        rw [if_neg c3]
        by_cases c2 : x = 2
        · rw [if_pos c2, c2, VV2.out, FIN2.out]
        rw [if_neg c2]
        by_cases c1 : x = 1
        · rw [if_pos c1, c1, VV1.out, FIN1.out]
        rw [if_neg c1]
        by_cases c0 : x = 0
        · rw [if_pos c0, c0, VV0.out, FIN0.out]
        rw [if_neg c0]
        omega
      have hbk := on4.blk n2 HK.out.2.1
      have hon := HK.out.1.trans (Only2.of1 (c := bd) on4)
      clear kk0 kk1 kk2 kk3 kk4  ca0 ca1 ca2 ca3 ca4 hrow
      go_loopw [14] (fun y wr => ∃ j : Nat, j ≤ 4 ∧ y = .int .i64 (j : Nat) ∧ Only2 bt bd w1 wr ∧ Blk wr bt 57 (cellsF 4 (ints .u16 V)) ∧ Blk wr bd Td (cellsF 256 (upto (4 * r + j) (ints .i16 G) (ints .i16 Z)))) (fun y _ => 4 - (intOf y).toNat)
      case atStart => exact ⟨0, by omega, rfl, hon, kt, hbk⟩
      case round =>
        clear hon kt hbk
        obtain ⟨j, hj, rfl, hon, kt, hbk⟩ := hrel
        by_cases hjl : j < 4
        · obtain ⟨p, ep⟩ : ∃ p : Nat, p = 4 * r + j := ⟨_, rfl⟩
          rw [← ep] at hbk
          have hnp : p < 256 := by omega
          obtain ⟨f1, f2⟩ := HV.out.1 j hjl
          have gg : G p = (512 + V j % 1024 * 3329) / 1024 := by rw [ep]; exact HV.out.2 j hjl
          have cb : wr.cell? ⟨bt, j, none⟩ = some (.int .u16 (V j)) := kt.cell hjl
          have ca : wr.cell? ⟨bd, p, none⟩ = some (.int .i16 (Z p)) := by have h := hbk.cell hnp; rw [upto_at] at h; exact h
          have fp := hbk.frozen p
          generalize V j = x0 at *
          obtain ⟨g, eg⟩ : ∃ g : Int, g = G p := ⟨_, rfl⟩
          rw [← eg] at gg
          obtain ⟨y1, y2, y3, y4, y5, y6, hy1, hy2, hy3, hy4, hy5, hy6, my2, my3, my4, fing⟩ := in_ar x0 g ⟨f1, f2⟩ gg
          have HZ := Lib.hid (fing.trans eg)
          have HE := Lib.hid ep
          have z8 : 4 * (r : Int) + (j : Int) = (p : Int) := by omega
          have zb : (p : Int) < 256 := by omega
          have w8 : IntKind.i64.wrap (4 * (r : Int)) = 4 * (r : Int) := by rw [IntKind.wrap_i64]; omega
          have wp : IntKind.i64.wrap (p : Int) = (p : Int) := by rw [IntKind.wrap_i64]; omega
          have HO := Lib.hid hon
          clear gg eg fing ep hon
          go_wp2_with fail
          go_still_tail 16, (by kernel_rfl)
          go_wp2_with fail
          go_roundw
          case rel =>
            have os : Only bd wr (wr.drew.setCell ⟨bd, p, none⟩ (.int .i16 y6)) := (Only.refl bd wr).drew.setCell _
            refine ⟨j + 1, by omega, by go_num, HO.out.trans (Only2.of2 os), os.blk n2.symm kt, ?_⟩
            have h1 := Blk.setCell hbk.drew p (ints .i16 G p)
            rw [upto_set (by rfl)] at h1
            rw [show 4 * r + (j + 1) = p + 1 by have := HE.out; omega, HZ.out]
            exact h1
          case measure => simp [intOf]; omega
        · have hjN : j = 4 := by omega
          subst hjN
          go_wp2_with fail
          go_roundw
          case rel => exact ⟨r + 1, V, by omega, by go_num, by go_num, hon, kt, by rw [show 4 * (r + 1) = 4 * r + 4 by omega]; exact hbk⟩
          case measure => simp [intOf]; omega
    · have hr' : r = 64 := by omega
      subst hr'
      clear kt hd HH HS hs hf
      go_wp2_with fail
      go_end0
      refine ⟨rfl, ?_, by rw [show 4 * 64 = 256 by omega, upto_all] at hbk; exact hbk⟩
      exact hon.ext HX.out hw0 hsz
end Go.Proofs.Ytngmpnkhdjnhoaa.decomp10
