/- CompressTo (Kyber) at d = 11. -/
import Derived.Test.YtngmpnkhdjnhoaaKTan
import Derived.Test.YtngmpnkhdjnhoaaEncK
import Derived.Test.YtngmpnkhdjnhoaaOnly2
import Derived.Test.YtngmpnkhdjnhoaaBits
import Derived.Lib.Hide
namespace Go.Proofs.Ytngmpnkhdjnhoaa.comp11
open Go Go.Proofs Go.RowKit Go.Kd
set_option linter.unusedSimpArgs false
set_option linter.unusedVariables false
theorem szB : (Try.prog.info? 5).map (·.size) = some 1 := by kernel_rfl
theorem zeroT : (Try.prog.info? 56).map (fun i => (i.zero, i.size)) = some (some (.agg (cellsF 8 (ints .u16 fun _ => 0))), 8) := by rw [show cellsF 8 (ints .u16 fun _ => 0) = Array.replicate 8 (.int .u16 0) from (replicate_cellsF 8 _).symm]; kernel_rfl
theorem ok_all : (List.range 3329).all (fun x => ((x : Int) * 2048 + 1664) * 20642679 / 68719476736 % 65536 % 2048 == ((x : Int) * 4096 + 3329) / 6658 % 2048) = true := by kernel_rfl
theorem ok (x : Int) (h : 0 ≤ x ∧ x ≤ 3328) : (x * 2048 + 1664) * 20642679 / 68719476736 % 65536 % 2048 = (x * 4096 + 3329) / 6658 % 2048 := by
  obtain ⟨y, rfl⟩ := Int.eq_ofNat_of_zero_le h.1
  have h2 := List.all_eq_true.1 ok_all y (List.mem_range.2 (by omega))
  exact eq_of_beq h2
theorem in_ar (x0 g : Int) (h_x0 : 0 ≤ x0 ∧ x0 ≤ 3328) (hg : g = (x0 * 4096 + 3329) / 6658 % 2048) : ∃ y1 y2 y3 y4 y5 y6 y7 y8 : Int, IntKind.u32.wrap x0 = y1 ∧ IntKind.u32.wrap (y1 * 2048) = y2 ∧ IntKind.u32.wrap (y2 + 1664) = y3 ∧ IntKind.u64.wrap y3 = y4 ∧ IntKind.u64.wrap (y4 * 20642679) = y5 ∧ y5 / 68719476736 = y6 ∧ IntKind.u16.wrap y6 = y7 ∧ bits .and .u16 y7 2047 = y8 ∧ (x0) % 4294967296 = y1 ∧ (y1 * 2048) % 4294967296 = y2 ∧ (y2 + 1664) % 4294967296 = y3 ∧ (y3) % 18446744073709551616 = y4 ∧ (y4 * 20642679) % 18446744073709551616 = y5 ∧ (y6) % 65536 = y7 ∧ y8 = g := by
  obtain ⟨y1, hy1⟩ : ∃ y, IntKind.u32.wrap x0 = y := ⟨_, rfl⟩
  have my1 : y1 = (x0) % 4294967296 := by rw [← hy1, IntKind.wrap_u32]
  have ey1 : y1 = x0 := by omega
  obtain ⟨y2, hy2⟩ : ∃ y, IntKind.u32.wrap (y1 * 2048) = y := ⟨_, rfl⟩
  have my2 : y2 = (y1 * 2048) % 4294967296 := by rw [← hy2, IntKind.wrap_u32]
  have ey2 : y2 = y1 * 2048 := by omega
  obtain ⟨y3, hy3⟩ : ∃ y, IntKind.u32.wrap (y2 + 1664) = y := ⟨_, rfl⟩
  have my3 : y3 = (y2 + 1664) % 4294967296 := by rw [← hy3, IntKind.wrap_u32]
  have ey3 : y3 = y2 + 1664 := by omega
  obtain ⟨y4, hy4⟩ : ∃ y, IntKind.u64.wrap y3 = y := ⟨_, rfl⟩
  have my4 : y4 = (y3) % 18446744073709551616 := by rw [← hy4, wrap_u64']
  have ey4 : y4 = y3 := by omega
  obtain ⟨y5, hy5⟩ : ∃ y, IntKind.u64.wrap (y4 * 20642679) = y := ⟨_, rfl⟩
  have my5 : y5 = (y4 * 20642679) % 18446744073709551616 := by rw [← hy5, wrap_u64']
  have ey5 : y5 = y4 * 20642679 := by omega
  obtain ⟨y6, hy6⟩ : ∃ y, y5 / 68719476736 = y := ⟨_, rfl⟩
  have my6 : y6 = y5 / 68719476736 := hy6.symm
  obtain ⟨y7, hy7⟩ : ∃ y, IntKind.u16.wrap y6 = y := ⟨_, rfl⟩
  have my7 : y7 = (y6) % 65536 := by rw [← hy7, wrap_u16']
  obtain ⟨y8, hy8⟩ : ∃ y, bits .and .u16 y7 2047 = y := ⟨_, rfl⟩
  have my8 : y8 = y7 % 2048 := by rw [← hy8]; exact and_u16 y7 11 _ (by decide) (by decide)
  exact ⟨y1, y2, y3, y4, y5, y6, y7, y8, hy1, hy2, hy3, hy4, hy5, hy6, hy7, hy8, my1.symm, my2.symm, my3.symm, my4.symm, my5.symm, my7.symm, by rw [hg, ← ok x0 h_x0, my8, my7, my6, ey5, ey4, ey3, ey2, ey1]⟩
theorem out_ar0 (x0 g : Int) (h_x0 : 0 ≤ x0 ∧ x0 ≤ 2047) (hg : g = x0 % 256) : ∃ y1 : Int, IntKind.u8.wrap x0 = y1 ∧ (x0) % 256 = y1 ∧ y1 = g := by
  obtain ⟨y1, hy1⟩ : ∃ y, IntKind.u8.wrap x0 = y := ⟨_, rfl⟩
  have my1 : y1 = (x0) % 256 := by rw [← hy1, IntKind.wrap_u8]
  exact ⟨y1, hy1, my1.symm, by rw [hg]; omega⟩
theorem out_ar1 (x0 x1 g : Int) (h_x0 : 0 ≤ x0 ∧ x0 ≤ 2047) (h_x1 : 0 ≤ x1 ∧ x1 ≤ 2047) (hg : g = x0 / 256 + x1 % 32 * 8) : ∃ y2 y3 y4 y5 y6 : Int, x0 / 256 = y2 ∧ IntKind.u8.wrap y2 = y3 ∧ IntKind.u16.wrap (x1 * 8) = y4 ∧ IntKind.u8.wrap y4 = y5 ∧ bits .or .u8 y3 y5 = y6 ∧ (y2) % 256 = y3 ∧ (x1 * 8) % 65536 = y4 ∧ (y4) % 256 = y5 ∧ y6 = g := by
  obtain ⟨y2, hy2⟩ : ∃ y, x0 / 256 = y := ⟨_, rfl⟩
  have my2 : y2 = x0 / 256 := hy2.symm
  obtain ⟨y3, hy3⟩ : ∃ y, IntKind.u8.wrap y2 = y := ⟨_, rfl⟩
  have my3 : y3 = (y2) % 256 := by rw [← hy3, IntKind.wrap_u8]
  obtain ⟨y4, hy4⟩ : ∃ y, IntKind.u16.wrap (x1 * 8) = y := ⟨_, rfl⟩
  have my4 : y4 = (x1 * 8) % 65536 := by rw [← hy4, wrap_u16']
  obtain ⟨y5, hy5⟩ : ∃ y, IntKind.u8.wrap y4 = y := ⟨_, rfl⟩
  have my5 : y5 = (y4) % 256 := by rw [← hy5, IntKind.wrap_u8]
  obtain ⟨y6, hy6⟩ : ∃ y, bits .or .u8 y3 y5 = y := ⟨_, rfl⟩
  have my6 : y6 = y3 + y5 := by rw [← hy6]; exact or_u8 y3 y5 3 (y5 / 8) (by omega) (by omega) (by omega) (by omega) (by omega)
  exact ⟨y2, y3, y4, y5, y6, hy2, hy3, hy4, hy5, hy6, my3.symm, my4.symm, my5.symm, by rw [hg]; omega⟩
theorem out_ar2 (x1 x2 g : Int) (h_x1 : 0 ≤ x1 ∧ x1 ≤ 2047) (h_x2 : 0 ≤ x2 ∧ x2 ≤ 2047) (hg : g = x1 / 32 + x2 % 4 * 64) : ∃ y7 y8 y9 y10 y11 : Int, x1 / 32 = y7 ∧ IntKind.u8.wrap y7 = y8 ∧ IntKind.u16.wrap (x2 * 64) = y9 ∧ IntKind.u8.wrap y9 = y10 ∧ bits .or .u8 y8 y10 = y11 ∧ (y7) % 256 = y8 ∧ (x2 * 64) % 65536 = y9 ∧ (y9) % 256 = y10 ∧ y11 = g := by
  obtain ⟨y7, hy7⟩ : ∃ y, x1 / 32 = y := ⟨_, rfl⟩
  have my7 : y7 = x1 / 32 := hy7.symm
  obtain ⟨y8, hy8⟩ : ∃ y, IntKind.u8.wrap y7 = y := ⟨_, rfl⟩
  have my8 : y8 = (y7) % 256 := by rw [← hy8, IntKind.wrap_u8]
  obtain ⟨y9, hy9⟩ : ∃ y, IntKind.u16.wrap (x2 * 64) = y := ⟨_, rfl⟩
  have my9 : y9 = (x2 * 64) % 65536 := by rw [← hy9, wrap_u16']
  obtain ⟨y10, hy10⟩ : ∃ y, IntKind.u8.wrap y9 = y := ⟨_, rfl⟩
  have my10 : y10 = (y9) % 256 := by rw [← hy10, IntKind.wrap_u8]
  obtain ⟨y11, hy11⟩ : ∃ y, bits .or .u8 y8 y10 = y := ⟨_, rfl⟩
  have my11 : y11 = y8 + y10 := by rw [← hy11]; exact or_u8 y8 y10 6 (y10 / 64) (by omega) (by omega) (by omega) (by omega) (by omega)
  exact ⟨y7, y8, y9, y10, y11, hy7, hy8, hy9, hy10, hy11, my8.symm, my9.symm, my10.symm, by rw [hg]; omega⟩
theorem out_ar3 (x2 g : Int) (h_x2 : 0 ≤ x2 ∧ x2 ≤ 2047) (hg : g = x2 / 4 % 256) : ∃ y12 y13 : Int, x2 / 4 = y12 ∧ IntKind.u8.wrap y12 = y13 ∧ (y12) % 256 = y13 ∧ y13 = g := by
  obtain ⟨y12, hy12⟩ : ∃ y, x2 / 4 = y := ⟨_, rfl⟩
  have my12 : y12 = x2 / 4 := hy12.symm
  obtain ⟨y13, hy13⟩ : ∃ y, IntKind.u8.wrap y12 = y := ⟨_, rfl⟩
  have my13 : y13 = (y12) % 256 := by rw [← hy13, IntKind.wrap_u8]
  exact ⟨y12, y13, hy12, hy13, my13.symm, by rw [hg]; omega⟩
theorem out_ar4 (x2 x3 g : Int) (h_x2 : 0 ≤ x2 ∧ x2 ≤ 2047) (h_x3 : 0 ≤ x3 ∧ x3 ≤ 2047) (hg : g = x2 / 1024 + x3 % 128 * 2) : ∃ y14 y15 y16 y17 y18 : Int, x2 / 1024 = y14 ∧ IntKind.u8.wrap y14 = y15 ∧ IntKind.u16.wrap (x3 * 2) = y16 ∧ IntKind.u8.wrap y16 = y17 ∧ bits .or .u8 y15 y17 = y18 ∧ (y14) % 256 = y15 ∧ (x3 * 2) % 65536 = y16 ∧ (y16) % 256 = y17 ∧ y18 = g := by
  obtain ⟨y14, hy14⟩ : ∃ y, x2 / 1024 = y := ⟨_, rfl⟩
  have my14 : y14 = x2 / 1024 := hy14.symm
  obtain ⟨y15, hy15⟩ : ∃ y, IntKind.u8.wrap y14 = y := ⟨_, rfl⟩
  have my15 : y15 = (y14) % 256 := by rw [← hy15, IntKind.wrap_u8]
  obtain ⟨y16, hy16⟩ : ∃ y, IntKind.u16.wrap (x3 * 2) = y := ⟨_, rfl⟩
  have my16 : y16 = (x3 * 2) % 65536 := by rw [← hy16, wrap_u16']
  obtain ⟨y17, hy17⟩ : ∃ y, IntKind.u8.wrap y16 = y := ⟨_, rfl⟩
  have my17 : y17 = (y16) % 256 := by rw [← hy17, IntKind.wrap_u8]
  obtain ⟨y18, hy18⟩ : ∃ y, bits .or .u8 y15 y17 = y := ⟨_, rfl⟩
  have my18 : y18 = y15 + y17 := by rw [← hy18]; exact or_u8 y15 y17 1 (y17 / 2) (by omega) (by omega) (by omega) (by omega) (by omega)
  exact ⟨y14, y15, y16, y17, y18, hy14, hy15, hy16, hy17, hy18, my15.symm, my16.symm, my17.symm, by rw [hg]; omega⟩
theorem out_ar5 (x3 x4 g : Int) (h_x3 : 0 ≤ x3 ∧ x3 ≤ 2047) (h_x4 : 0 ≤ x4 ∧ x4 ≤ 2047) (hg : g = x3 / 128 + x4 % 16 * 16) : ∃ y19 y20 y21 y22 y23 : Int, x3 / 128 = y19 ∧ IntKind.u8.wrap y19 = y20 ∧ IntKind.u16.wrap (x4 * 16) = y21 ∧ IntKind.u8.wrap y21 = y22 ∧ bits .or .u8 y20 y22 = y23 ∧ (y19) % 256 = y20 ∧ (x4 * 16) % 65536 = y21 ∧ (y21) % 256 = y22 ∧ y23 = g := by
  obtain ⟨y19, hy19⟩ : ∃ y, x3 / 128 = y := ⟨_, rfl⟩
  have my19 : y19 = x3 / 128 := hy19.symm
  obtain ⟨y20, hy20⟩ : ∃ y, IntKind.u8.wrap y19 = y := ⟨_, rfl⟩
  have my20 : y20 = (y19) % 256 := by rw [← hy20, IntKind.wrap_u8]
  obtain ⟨y21, hy21⟩ : ∃ y, IntKind.u16.wrap (x4 * 16) = y := ⟨_, rfl⟩
  have my21 : y21 = (x4 * 16) % 65536 := by rw [← hy21, wrap_u16']
  obtain ⟨y22, hy22⟩ : ∃ y, IntKind.u8.wrap y21 = y := ⟨_, rfl⟩
  have my22 : y22 = (y21) % 256 := by rw [← hy22, IntKind.wrap_u8]
  obtain ⟨y23, hy23⟩ : ∃ y, bits .or .u8 y20 y22 = y := ⟨_, rfl⟩
  have my23 : y23 = y20 + y22 := by rw [← hy23]; exact or_u8 y20 y22 4 (y22 / 16) (by omega) (by omega) (by omega) (by omega) (by omega)
  exact ⟨y19, y20, y21, y22, y23, hy19, hy20, hy21, hy22, hy23, my20.symm, my21.symm, my22.symm, by rw [hg]; omega⟩
theorem out_ar6 (x4 x5 g : Int) (h_x4 : 0 ≤ x4 ∧ x4 ≤ 2047) (h_x5 : 0 ≤ x5 ∧ x5 ≤ 2047) (hg : g = x4 / 16 + x5 % 2 * 128) : ∃ y24 y25 y26 y27 y28 : Int, x4 / 16 = y24 ∧ IntKind.u8.wrap y24 = y25 ∧ IntKind.u16.wrap (x5 * 128) = y26 ∧ IntKind.u8.wrap y26 = y27 ∧ bits .or .u8 y25 y27 = y28 ∧ (y24) % 256 = y25 ∧ (x5 * 128) % 65536 = y26 ∧ (y26) % 256 = y27 ∧ y28 = g := by
  obtain ⟨y24, hy24⟩ : ∃ y, x4 / 16 = y := ⟨_, rfl⟩
  have my24 : y24 = x4 / 16 := hy24.symm
  obtain ⟨y25, hy25⟩ : ∃ y, IntKind.u8.wrap y24 = y := ⟨_, rfl⟩
  have my25 : y25 = (y24) % 256 := by rw [← hy25, IntKind.wrap_u8]
  obtain ⟨y26, hy26⟩ : ∃ y, IntKind.u16.wrap (x5 * 128) = y := ⟨_, rfl⟩
  have my26 : y26 = (x5 * 128) % 65536 := by rw [← hy26, wrap_u16']
  obtain ⟨y27, hy27⟩ : ∃ y, IntKind.u8.wrap y26 = y := ⟨_, rfl⟩
  have my27 : y27 = (y26) % 256 := by rw [← hy27, IntKind.wrap_u8]
  obtain ⟨y28, hy28⟩ : ∃ y, bits .or .u8 y25 y27 = y := ⟨_, rfl⟩
  have my28 : y28 = y25 + y27 := by rw [← hy28]; exact or_u8 y25 y27 7 (y27 / 128) (by omega) (by omega) (by omega) (by omega) (by omega)
  exact ⟨y24, y25, y26, y27, y28, hy24, hy25, hy26, hy27, hy28, my25.symm, my26.symm, my27.symm, by rw [hg]; omega⟩
theorem out_ar7 (x5 g : Int) (h_x5 : 0 ≤ x5 ∧ x5 ≤ 2047) (hg : g = x5 / 2 % 256) : ∃ y29 y30 : Int, x5 / 2 = y29 ∧ IntKind.u8.wrap y29 = y30 ∧ (y29) % 256 = y30 ∧ y30 = g := by
  obtain ⟨y29, hy29⟩ : ∃ y, x5 / 2 = y := ⟨_, rfl⟩
  have my29 : y29 = x5 / 2 := hy29.symm
  obtain ⟨y30, hy30⟩ : ∃ y, IntKind.u8.wrap y29 = y := ⟨_, rfl⟩
  have my30 : y30 = (y29) % 256 := by rw [← hy30, IntKind.wrap_u8]
  exact ⟨y29, y30, hy29, hy30, my30.symm, by rw [hg]; omega⟩
theorem out_ar8 (x5 x6 g : Int) (h_x5 : 0 ≤ x5 ∧ x5 ≤ 2047) (h_x6 : 0 ≤ x6 ∧ x6 ≤ 2047) (hg : g = x5 / 512 + x6 % 64 * 4) : ∃ y31 y32 y33 y34 y35 : Int, x5 / 512 = y31 ∧ IntKind.u8.wrap y31 = y32 ∧ IntKind.u16.wrap (x6 * 4) = y33 ∧ IntKind.u8.wrap y33 = y34 ∧ bits .or .u8 y32 y34 = y35 ∧ (y31) % 256 = y32 ∧ (x6 * 4) % 65536 = y33 ∧ (y33) % 256 = y34 ∧ y35 = g := by
  obtain ⟨y31, hy31⟩ : ∃ y, x5 / 512 = y := ⟨_, rfl⟩
  have my31 : y31 = x5 / 512 := hy31.symm
  obtain ⟨y32, hy32⟩ : ∃ y, IntKind.u8.wrap y31 = y := ⟨_, rfl⟩
  have my32 : y32 = (y31) % 256 := by rw [← hy32, IntKind.wrap_u8]
  obtain ⟨y33, hy33⟩ : ∃ y, IntKind.u16.wrap (x6 * 4) = y := ⟨_, rfl⟩
  have my33 : y33 = (x6 * 4) % 65536 := by rw [← hy33, wrap_u16']
  obtain ⟨y34, hy34⟩ : ∃ y, IntKind.u8.wrap y33 = y := ⟨_, rfl⟩
  have my34 : y34 = (y33) % 256 := by rw [← hy34, IntKind.wrap_u8]
  obtain ⟨y35, hy35⟩ : ∃ y, bits .or .u8 y32 y34 = y := ⟨_, rfl⟩
  have my35 : y35 = y32 + y34 := by rw [← hy35]; exact or_u8 y32 y34 2 (y34 / 4) (by omega) (by omega) (by omega) (by omega) (by omega)
  exact ⟨y31, y32, y33, y34, y35, hy31, hy32, hy33, hy34, hy35, my32.symm, my33.symm, my34.symm, by rw [hg]; omega⟩
theorem out_ar9 (x6 x7 g : Int) (h_x6 : 0 ≤ x6 ∧ x6 ≤ 2047) (h_x7 : 0 ≤ x7 ∧ x7 ≤ 2047) (hg : g = x6 / 64 + x7 % 8 * 32) : ∃ y36 y37 y38 y39 y40 : Int, x6 / 64 = y36 ∧ IntKind.u8.wrap y36 = y37 ∧ IntKind.u16.wrap (x7 * 32) = y38 ∧ IntKind.u8.wrap y38 = y39 ∧ bits .or .u8 y37 y39 = y40 ∧ (y36) % 256 = y37 ∧ (x7 * 32) % 65536 = y38 ∧ (y38) % 256 = y39 ∧ y40 = g := by
  obtain ⟨y36, hy36⟩ : ∃ y, x6 / 64 = y := ⟨_, rfl⟩
  have my36 : y36 = x6 / 64 := hy36.symm
  obtain ⟨y37, hy37⟩ : ∃ y, IntKind.u8.wrap y36 = y := ⟨_, rfl⟩
  have my37 : y37 = (y36) % 256 := by rw [← hy37, IntKind.wrap_u8]
  obtain ⟨y38, hy38⟩ : ∃ y, IntKind.u16.wrap (x7 * 32) = y := ⟨_, rfl⟩
  have my38 : y38 = (x7 * 32) % 65536 := by rw [← hy38, wrap_u16']
  obtain ⟨y39, hy39⟩ : ∃ y, IntKind.u8.wrap y38 = y := ⟨_, rfl⟩
  have my39 : y39 = (y38) % 256 := by rw [← hy39, IntKind.wrap_u8]
  obtain ⟨y40, hy40⟩ : ∃ y, bits .or .u8 y37 y39 = y := ⟨_, rfl⟩
  have my40 : y40 = y37 + y39 := by rw [← hy40]; exact or_u8 y37 y39 5 (y39 / 32) (by omega) (by omega) (by omega) (by omega) (by omega)
  exact ⟨y36, y37, y38, y39, y40, hy36, hy37, hy38, hy39, hy40, my37.symm, my38.symm, my39.symm, by rw [hg]; omega⟩
theorem out_ar10 (x7 g : Int) (h_x7 : 0 ≤ x7 ∧ x7 ≤ 2047) (hg : g = x7 / 8) : ∃ y41 y42 : Int, x7 / 8 = y41 ∧ IntKind.u8.wrap y41 = y42 ∧ (y41) % 256 = y42 ∧ y42 = g := by
  obtain ⟨y41, hy41⟩ : ∃ y, x7 / 8 = y := ⟨_, rfl⟩
  have my41 : y41 = x7 / 8 := hy41.symm
  obtain ⟨y42, hy42⟩ : ∃ y, IntKind.u8.wrap y41 = y := ⟨_, rfl⟩
  have my42 : y42 = (y41) % 256 := by rw [← hy42, IntKind.wrap_u8]
  exact ⟨y41, y42, hy41, hy42, my42.symm, by rw [hg]; omega⟩
set_option maxRecDepth 100000 in
set_option maxHeartbeats 20000000 in
theorem any (bs bd : Nat) (w0 w : World) (Td : TypeId) (f l G Z : Nat → Int) (hs0 : RowK w bs 256 .i16 f) (hd0 : Blk w bd Td (cellsF 352 (ints .u8 Z))) (hne : bs ≠ bd) (hx0 : Ext w0 w) (hsz : w0.heap.size ≤ bd) (hf : ∀ i, i < 256 → 0 ≤ f i ∧ f i ≤ 3328) (hlf : ∀ i, i < 256 → l i = (f i * 4096 + 3329) / 6658 % 2048)
    (hG0 : ∀ r, r < 32 → G (11 * r + 0) = l (8 * r + 0) % 256) (hG1 : ∀ r, r < 32 → G (11 * r + 1) = l (8 * r + 0) / 256 + l (8 * r + 1) % 32 * 8) (hG2 : ∀ r, r < 32 → G (11 * r + 2) = l (8 * r + 1) / 32 + l (8 * r + 2) % 4 * 64) (hG3 : ∀ r, r < 32 → G (11 * r + 3) = l (8 * r + 2) / 4 % 256) (hG4 : ∀ r, r < 32 → G (11 * r + 4) = l (8 * r + 2) / 1024 + l (8 * r + 3) % 128 * 2) (hG5 : ∀ r, r < 32 → G (11 * r + 5) = l (8 * r + 3) / 128 + l (8 * r + 4) % 16 * 16) (hG6 : ∀ r, r < 32 → G (11 * r + 6) = l (8 * r + 4) / 16 + l (8 * r + 5) % 2 * 128) (hG7 : ∀ r, r < 32 → G (11 * r + 7) = l (8 * r + 5) / 2 % 256) (hG8 : ∀ r, r < 32 → G (11 * r + 8) = l (8 * r + 5) / 512 + l (8 * r + 6) % 64 * 4) (hG9 : ∀ r, r < 32 → G (11 * r + 9) = l (8 * r + 6) / 64 + l (8 * r + 7) % 8 * 32) (hG10 : ∀ r, r < 32 → G (11 * r + 10) = l (8 * r + 7) / 8) :
    Calls Try.prog 37 #[.pointer (some ⟨bs, 0, none⟩), .slice (some ⟨bd, 0, none⟩) 352 352, .int .i64 11] w fun e w' => e = .returned (.tuple #[]) ∧ Ext w0 w' ∧ Blk w' bd Td (cellsF 352 (ints .u8 G)) := by
  have ls := hs0.1
  have ld := hd0.lt
  have HH := Lib.hid hd0
  have HS := Lib.hid hs0
  clear hd0 hs0
  go_enter Try.func37, Try.ntmps37
  go_wp2_with (refine wpList_allocA 56 _ _ zeroT rfl rfl ?_; simp only [Act.put, List.setIfInBounds_toArray, List.set]; intro w1 bt ht x1 kt)
  have hs := HS.out.ext x1
  have hd := HH.out.ext x1
  have n1 : bs ≠ bt := by omega
  have n2 : bd ≠ bt := by omega
  have hw0 : w0.heap.size ≤ bt := by have := hx0.size; omega
  have HX := Lib.hid (Ext.trans hx0 x1)
  have HL := Lib.hid hlf
  clear x1 hx0 hlf
  go_loopw [20, 19] (fun x y wr => ∃ (r : Nat) (A : Nat → Int), r ≤ 32 ∧ x = .int .i64 (r : Nat) ∧ y = .int .i64 (11 * r : Nat) ∧ Only2 bt bd w1 wr ∧ Blk wr bt 56 (cellsF 8 (ints .u16 A)) ∧ Blk wr bd Td (cellsF 352 (upto (11 * r) (ints .u8 G) (ints .u8 Z)))) (fun x _ _ => 32 - (intOf x).toNat)
  case atStart => exact ⟨0, _, by omega, rfl, rfl, Only2.refl _ _ _, kt, by rw [upto_zero]; exact hd⟩
  case round =>
    obtain ⟨r, A, hr, rfl, rfl, hon, hbt, hbk⟩ := hrel
    by_cases hl : r < 32
    · clear kt hd HH HS
      go_wp2_with fail
      have hjz : decide ((r : Int) < 32) = true := decide_eq_true (by omega)
      rw [hjz]
      clear hjz
      go_loopw [21] (fun y wr => ∃ j : Nat, j ≤ 8 ∧ y = .int .i64 (j : Nat) ∧ Only2 bt bd w1 wr ∧ Blk wr bt 56 (cellsF 8 (upto j (ints .u16 fun k => l (8 * r + k)) (ints .u16 A))) ∧ Blk wr bd Td (cellsF 352 (upto (11 * r) (ints .u8 G) (ints .u8 Z)))) (fun y _ => 8 - (intOf y).toNat)
      case atStart => exact ⟨0, by omega, rfl, hon, by rw [upto_zero]; exact hbt, hbk⟩
      case round =>
        clear hon hbt hbk
        obtain ⟨j, hj, rfl, hon, hbt, hbk⟩ := hrel
        by_cases hjl : j < 8
        · obtain ⟨p, ep⟩ : ∃ p : Nat, p = 8 * r + j := ⟨_, rfl⟩
          have hnp : p < 256 := by omega
          obtain ⟨f1, f2⟩ := hf p hnp
          have gg := HL.out p hnp
          have cb : wr.cell? ⟨bs, p, none⟩ = some (.int .i16 (f p)) := (hon.row n1 hne hs).2 p hnp
          have ca : wr.cell? ⟨bt, j, none⟩ = some (.int .u16 (A j)) := by have h := hbt.cell hjl; rw [upto_at] at h; exact h
          have fp := hbt.frozen j
          have hlp : l (8 * r + j) = l p := by rw [ep]
          generalize l p = g at *
          generalize f p = x0 at *
          obtain ⟨y1, y2, y3, y4, y5, y6, y7, y8, hy1, hy2, hy3, hy4, hy5, hy6, hy7, hy8, my1, my2, my3, my4, my5, my7, fing⟩ := in_ar x0 g ⟨f1, f2⟩ gg
          have HF := Lib.hid (fing.trans hlp.symm)
          have hv1 := hon
          have HE := Lib.hid ep
          have z8 : 8 * (r : Int) + (j : Int) = (p : Int) := by omega
          have zb : (p : Int) < 256 := by omega
          have HN := Lib.hid hv1
          have HA := Lib.hid hf
          clear gg fing hlp ep hv1 hs hf hne n1
          clear hG0 hG1 hG2 hG3 hG4 hG5 hG6 hG7 hG8 hG9 hG10
          go_wp2_with fail
          go_roundw
          case rel =>
            have os : Only bt wr (wr.setCell ⟨bt, j, none⟩ (.int .u16 y8)) := (Only.refl bt wr).setCell _
            refine ⟨j + 1, by omega, by go_num, hon.trans (Only2.of1 os), ?_, os.blk n2 hbk⟩
            have h1 := Blk.setCell hbt j (ints .u16 (fun k => l (8 * r + k)) j)
            rw [upto_set (by rfl)] at h1
            rw [HF.out]
            exact h1
          case measure => simp [intOf]; omega
        · have hjN : j = 8 := by omega
          subst hjN
          rw [upto_all] at hbt
          have hrow := hbt.rowK
          have on0 : Only bd wr wr := Only.refl bd wr
          obtain ⟨b0, eb0⟩ : ∃ p : Nat, p = 11 * r + 0 := ⟨_, rfl⟩
          obtain ⟨b1, eb1⟩ : ∃ p : Nat, p = 11 * r + 1 := ⟨_, rfl⟩
          obtain ⟨b2, eb2⟩ : ∃ p : Nat, p = 11 * r + 2 := ⟨_, rfl⟩
          obtain ⟨b3, eb3⟩ : ∃ p : Nat, p = 11 * r + 3 := ⟨_, rfl⟩
          obtain ⟨b4, eb4⟩ : ∃ p : Nat, p = 11 * r + 4 := ⟨_, rfl⟩
          obtain ⟨b5, eb5⟩ : ∃ p : Nat, p = 11 * r + 5 := ⟨_, rfl⟩
          obtain ⟨b6, eb6⟩ : ∃ p : Nat, p = 11 * r + 6 := ⟨_, rfl⟩
          obtain ⟨b7, eb7⟩ : ∃ p : Nat, p = 11 * r + 7 := ⟨_, rfl⟩
          obtain ⟨b8, eb8⟩ : ∃ p : Nat, p = 11 * r + 8 := ⟨_, rfl⟩
          obtain ⟨b9, eb9⟩ : ∃ p : Nat, p = 11 * r + 9 := ⟨_, rfl⟩
          obtain ⟨b10, eb10⟩ : ∃ p : Nat, p = 11 * r + 10 := ⟨_, rfl⟩
          have la0 : 0 ≤ l (8 * r + 0) ∧ l (8 * r + 0) ≤ 2047 := by have h := HL.out (8 * r + 0) (by omega); omega
          have la1 : 0 ≤ l (8 * r + 1) ∧ l (8 * r + 1) ≤ 2047 := by have h := HL.out (8 * r + 1) (by omega); omega
          have la2 : 0 ≤ l (8 * r + 2) ∧ l (8 * r + 2) ≤ 2047 := by have h := HL.out (8 * r + 2) (by omega); omega
          have la3 : 0 ≤ l (8 * r + 3) ∧ l (8 * r + 3) ≤ 2047 := by have h := HL.out (8 * r + 3) (by omega); omega
          have la4 : 0 ≤ l (8 * r + 4) ∧ l (8 * r + 4) ≤ 2047 := by have h := HL.out (8 * r + 4) (by omega); omega
          have la5 : 0 ≤ l (8 * r + 5) ∧ l (8 * r + 5) ≤ 2047 := by have h := HL.out (8 * r + 5) (by omega); omega
          have la6 : 0 ≤ l (8 * r + 6) ∧ l (8 * r + 6) ≤ 2047 := by have h := HL.out (8 * r + 6) (by omega); omega
          have la7 : 0 ≤ l (8 * r + 7) ∧ l (8 * r + 7) ≤ 2047 := by have h := HL.out (8 * r + 7) (by omega); omega
          have gg0 : G b0 = l (8 * r + 0) % 256 := by rw [eb0, hG0 r hl]
          have gg1 : G b1 = l (8 * r + 0) / 256 + l (8 * r + 1) % 32 * 8 := by rw [eb1, hG1 r hl]
          have gg2 : G b2 = l (8 * r + 1) / 32 + l (8 * r + 2) % 4 * 64 := by rw [eb2, hG2 r hl]
          have gg3 : G b3 = l (8 * r + 2) / 4 % 256 := by rw [eb3, hG3 r hl]
          have gg4 : G b4 = l (8 * r + 2) / 1024 + l (8 * r + 3) % 128 * 2 := by rw [eb4, hG4 r hl]
          have gg5 : G b5 = l (8 * r + 3) / 128 + l (8 * r + 4) % 16 * 16 := by rw [eb5, hG5 r hl]
          have gg6 : G b6 = l (8 * r + 4) / 16 + l (8 * r + 5) % 2 * 128 := by rw [eb6, hG6 r hl]
          have gg7 : G b7 = l (8 * r + 5) / 2 % 256 := by rw [eb7, hG7 r hl]
          have gg8 : G b8 = l (8 * r + 5) / 512 + l (8 * r + 6) % 64 * 4 := by rw [eb8, hG8 r hl]
          have gg9 : G b9 = l (8 * r + 6) / 64 + l (8 * r + 7) % 8 * 32 := by rw [eb9, hG9 r hl]
          have gg10 : G b10 = l (8 * r + 7) / 8 := by rw [eb10, hG10 r hl]
          have rc0 : ∀ w2, RowK w2 bt 8 .u16 (fun k => l (8 * r + k)) → w2.cell? ⟨bt, 0, none⟩ = some (.int .u16 (l (8 * r + 0))) := fun w2 h => h.2 0 (by omega)
          have rc1 : ∀ w2, RowK w2 bt 8 .u16 (fun k => l (8 * r + k)) → w2.cell? ⟨bt, 1, none⟩ = some (.int .u16 (l (8 * r + 1))) := fun w2 h => h.2 1 (by omega)
          have rc2 : ∀ w2, RowK w2 bt 8 .u16 (fun k => l (8 * r + k)) → w2.cell? ⟨bt, 2, none⟩ = some (.int .u16 (l (8 * r + 2))) := fun w2 h => h.2 2 (by omega)
          have rc3 : ∀ w2, RowK w2 bt 8 .u16 (fun k => l (8 * r + k)) → w2.cell? ⟨bt, 3, none⟩ = some (.int .u16 (l (8 * r + 3))) := fun w2 h => h.2 3 (by omega)
          have rc4 : ∀ w2, RowK w2 bt 8 .u16 (fun k => l (8 * r + k)) → w2.cell? ⟨bt, 4, none⟩ = some (.int .u16 (l (8 * r + 4))) := fun w2 h => h.2 4 (by omega)
          have rc5 : ∀ w2, RowK w2 bt 8 .u16 (fun k => l (8 * r + k)) → w2.cell? ⟨bt, 5, none⟩ = some (.int .u16 (l (8 * r + 5))) := fun w2 h => h.2 5 (by omega)
          have rc6 : ∀ w2, RowK w2 bt 8 .u16 (fun k => l (8 * r + k)) → w2.cell? ⟨bt, 6, none⟩ = some (.int .u16 (l (8 * r + 6))) := fun w2 h => h.2 6 (by omega)
          have rc7 : ∀ w2, RowK w2 bt 8 .u16 (fun k => l (8 * r + k)) → w2.cell? ⟨bt, 7, none⟩ = some (.int .u16 (l (8 * r + 7))) := fun w2 h => h.2 7 (by omega)
          generalize l (8 * r + 0) = x0 at *
          generalize l (8 * r + 1) = x1 at *
          generalize l (8 * r + 2) = x2 at *
          generalize l (8 * r + 3) = x3 at *
          generalize l (8 * r + 4) = x4 at *
          generalize l (8 * r + 5) = x5 at *
          generalize l (8 * r + 6) = x6 at *
          generalize l (8 * r + 7) = x7 at *
          generalize hg0 : G b0 = g0 at *
          generalize hg1 : G b1 = g1 at *
          generalize hg2 : G b2 = g2 at *
          generalize hg3 : G b3 = g3 at *
          generalize hg4 : G b4 = g4 at *
          generalize hg5 : G b5 = g5 at *
          generalize hg6 : G b6 = g6 at *
          generalize hg7 : G b7 = g7 at *
          generalize hg8 : G b8 = g8 at *
          generalize hg9 : G b9 = g9 at *
          generalize hg10 : G b10 = g10 at *
          have HG0 := Lib.hid hg0; clear hg0
          have HG1 := Lib.hid hg1; clear hg1
          have HG2 := Lib.hid hg2; clear hg2
          have HG3 := Lib.hid hg3; clear hg3
          have HG4 := Lib.hid hg4; clear hg4
          have HG5 := Lib.hid hg5; clear hg5
          have HG6 := Lib.hid hg6; clear hg6
          have HG7 := Lib.hid hg7; clear hg7
          have HG8 := Lib.hid hg8; clear hg8
          have HG9 := Lib.hid hg9; clear hg9
          have HG10 := Lib.hid hg10; clear hg10
          obtain ⟨y1, hy1, my1, fing0⟩ := out_ar0 x0 g0 la0 gg0
          obtain ⟨y2, y3, y4, y5, y6, hy2, hy3, hy4, hy5, hy6, my3, my4, my5, fing1⟩ := out_ar1 x0 x1 g1 la0 la1 gg1
          obtain ⟨y7, y8, y9, y10, y11, hy7, hy8, hy9, hy10, hy11, my8, my9, my10, fing2⟩ := out_ar2 x1 x2 g2 la1 la2 gg2
          obtain ⟨y12, y13, hy12, hy13, my13, fing3⟩ := out_ar3 x2 g3 la2 gg3
          obtain ⟨y14, y15, y16, y17, y18, hy14, hy15, hy16, hy17, hy18, my15, my16, my17, fing4⟩ := out_ar4 x2 x3 g4 la2 la3 gg4
          obtain ⟨y19, y20, y21, y22, y23, hy19, hy20, hy21, hy22, hy23, my20, my21, my22, fing5⟩ := out_ar5 x3 x4 g5 la3 la4 gg5
          obtain ⟨y24, y25, y26, y27, y28, hy24, hy25, hy26, hy27, hy28, my25, my26, my27, fing6⟩ := out_ar6 x4 x5 g6 la4 la5 gg6
          obtain ⟨y29, y30, hy29, hy30, my30, fing7⟩ := out_ar7 x5 g7 la5 gg7
          obtain ⟨y31, y32, y33, y34, y35, hy31, hy32, hy33, hy34, hy35, my32, my33, my34, fing8⟩ := out_ar8 x5 x6 g8 la5 la6 gg8
          obtain ⟨y36, y37, y38, y39, y40, hy36, hy37, hy38, hy39, hy40, my37, my38, my39, fing9⟩ := out_ar9 x6 x7 g9 la6 la7 gg9
          obtain ⟨y41, y42, hy41, hy42, my42, fing10⟩ := out_ar10 x7 g10 la7 gg10
          clear gg0 gg1 gg2 gg3 gg4 gg5 gg6 gg7 gg8 gg9 gg10
          have FIN0 := Lib.hid fing0; clear fing0
          have FIN1 := Lib.hid fing1; clear fing1
          have FIN2 := Lib.hid fing2; clear fing2
          have FIN3 := Lib.hid fing3; clear fing3
          have FIN4 := Lib.hid fing4; clear fing4
          have FIN5 := Lib.hid fing5; clear fing5
          have FIN6 := Lib.hid fing6; clear fing6
          have FIN7 := Lib.hid fing7; clear fing7
          have FIN8 := Lib.hid fing8; clear fing8
          have FIN9 := Lib.hid fing9; clear fing9
          have FIN10 := Lib.hid fing10; clear fing10
          have zb0 : 11 * (r : Int) = (b0 : Int) := by omega
          have tb0 : (b0 : Int) < 352 := by omega
          have nb0 : b0 < 352 := by omega
          have zb1 : (b0 : Int) + 1 = (b1 : Int) := by omega
          have ub1 : IntKind.i64.wrap (b1 : Int) = (b1 : Int) := by rw [IntKind.wrap_i64]; omega
          have tb1 : (b1 : Int) < 352 := by omega
          have nb1 : b1 < 352 := by omega
          have zb2 : (b0 : Int) + 2 = (b2 : Int) := by omega
          have ub2 : IntKind.i64.wrap (b2 : Int) = (b2 : Int) := by rw [IntKind.wrap_i64]; omega
          have tb2 : (b2 : Int) < 352 := by omega
          have nb2 : b2 < 352 := by omega
          have zb3 : (b0 : Int) + 3 = (b3 : Int) := by omega
          have ub3 : IntKind.i64.wrap (b3 : Int) = (b3 : Int) := by rw [IntKind.wrap_i64]; omega
          have tb3 : (b3 : Int) < 352 := by omega
          have nb3 : b3 < 352 := by omega
          have zb4 : (b0 : Int) + 4 = (b4 : Int) := by omega
          have ub4 : IntKind.i64.wrap (b4 : Int) = (b4 : Int) := by rw [IntKind.wrap_i64]; omega
          have tb4 : (b4 : Int) < 352 := by omega
          have nb4 : b4 < 352 := by omega
          have zb5 : (b0 : Int) + 5 = (b5 : Int) := by omega
          have ub5 : IntKind.i64.wrap (b5 : Int) = (b5 : Int) := by rw [IntKind.wrap_i64]; omega
          have tb5 : (b5 : Int) < 352 := by omega
          have nb5 : b5 < 352 := by omega
          have zb6 : (b0 : Int) + 6 = (b6 : Int) := by omega
          have ub6 : IntKind.i64.wrap (b6 : Int) = (b6 : Int) := by rw [IntKind.wrap_i64]; omega
          have tb6 : (b6 : Int) < 352 := by omega
          have nb6 : b6 < 352 := by omega
          have zb7 : (b0 : Int) + 7 = (b7 : Int) := by omega
          have ub7 : IntKind.i64.wrap (b7 : Int) = (b7 : Int) := by rw [IntKind.wrap_i64]; omega
          have tb7 : (b7 : Int) < 352 := by omega
          have nb7 : b7 < 352 := by omega
          have zb8 : (b0 : Int) + 8 = (b8 : Int) := by omega
          have ub8 : IntKind.i64.wrap (b8 : Int) = (b8 : Int) := by rw [IntKind.wrap_i64]; omega
          have tb8 : (b8 : Int) < 352 := by omega
          have nb8 : b8 < 352 := by omega
          have zb9 : (b0 : Int) + 9 = (b9 : Int) := by omega
          have ub9 : IntKind.i64.wrap (b9 : Int) = (b9 : Int) := by rw [IntKind.wrap_i64]; omega
          have tb9 : (b9 : Int) < 352 := by omega
          have nb9 : b9 < 352 := by omega
          have zb10 : (b0 : Int) + 10 = (b10 : Int) := by omega
          have ub10 : IntKind.i64.wrap (b10 : Int) = (b10 : Int) := by rw [IntKind.wrap_i64]; omega
          have tb10 : (b10 : Int) < 352 := by omega
          have nb10 : b10 < 352 := by omega
          have Eb0 := Lib.hid eb0; clear eb0
          have Eb1 := Lib.hid eb1; clear eb1
          have Eb2 := Lib.hid eb2; clear eb2
          have Eb3 := Lib.hid eb3; clear eb3
          have Eb4 := Lib.hid eb4; clear eb4
          have Eb5 := Lib.hid eb5; clear eb5
          have Eb6 := Lib.hid eb6; clear eb6
          have Eb7 := Lib.hid eb7; clear eb7
          have Eb8 := Lib.hid eb8; clear eb8
          have Eb9 := Lib.hid eb9; clear eb9
          have Eb10 := Lib.hid eb10; clear eb10
          have RC0 := Lib.hid rc0; clear rc0
          have RC1 := Lib.hid rc1; clear rc1
          have RC2 := Lib.hid rc2; clear rc2
          have RC3 := Lib.hid rc3; clear rc3
          have RC4 := Lib.hid rc4; clear rc4
          have RC5 := Lib.hid rc5; clear rc5
          have RC6 := Lib.hid rc6; clear rc6
          have RC7 := Lib.hid rc7; clear rc7
          have HR := Lib.hid (⟨hon, hbk, hs⟩ : _ ∧ _ ∧ _)
          have kk0 := hbk
          have ca0 := RC0.out wr hrow
          have ca1 := RC1.out wr hrow
          have ca2 := RC2.out wr hrow
          have ca3 := RC3.out wr hrow
          have ca4 := RC4.out wr hrow
          have ca5 := RC5.out wr hrow
          have ca6 := RC6.out wr hrow
          have ca7 := RC7.out wr hrow
          clear hs hf hbk hon hG0 hG1 hG2 hG3 hG4 hG5 hG6 hG7 hG8 hG9 hG10
          go_wp2_with (first | (refine wpList_storeI szB (.tmp 318) (.tmp 317) bd b0 .u8 y1 kk0 nb0 rfl rfl rfl rfl ?_; intro w2 o1 kk1; have on1 := on0.trans o1; clear ca0 ca1 ca2 ca3 ca4 ca5 ca6 ca7; have ca0 := RC0.out w2 (hrow.only n2.symm on1); have ca1 := RC1.out w2 (hrow.only n2.symm on1); have ca2 := RC2.out w2 (hrow.only n2.symm on1); have ca3 := RC3.out w2 (hrow.only n2.symm on1); have ca4 := RC4.out w2 (hrow.only n2.symm on1); have ca5 := RC5.out w2 (hrow.only n2.symm on1); have ca6 := RC6.out w2 (hrow.only n2.symm on1); have ca7 := RC7.out w2 (hrow.only n2.symm on1); simp only [Act.put]) | (refine wpList_storeI szB (.tmp 331) (.tmp 330) bd b1 .u8 y6 kk1 nb1 rfl rfl rfl rfl ?_; intro w3 o2 kk2; have on2 := on1.trans o2; clear ca0 ca1 ca2 ca3 ca4 ca5 ca6 ca7; have ca0 := RC0.out w3 (hrow.only n2.symm on2); have ca1 := RC1.out w3 (hrow.only n2.symm on2); have ca2 := RC2.out w3 (hrow.only n2.symm on2); have ca3 := RC3.out w3 (hrow.only n2.symm on2); have ca4 := RC4.out w3 (hrow.only n2.symm on2); have ca5 := RC5.out w3 (hrow.only n2.symm on2); have ca6 := RC6.out w3 (hrow.only n2.symm on2); have ca7 := RC7.out w3 (hrow.only n2.symm on2); simp only [Act.put]) | (refine wpList_storeI szB (.tmp 344) (.tmp 343) bd b2 .u8 y11 kk2 nb2 rfl rfl rfl rfl ?_; intro w4 o3 kk3; have on3 := on2.trans o3; clear ca0 ca1 ca2 ca3 ca4 ca5 ca6 ca7; have ca0 := RC0.out w4 (hrow.only n2.symm on3); have ca1 := RC1.out w4 (hrow.only n2.symm on3); have ca2 := RC2.out w4 (hrow.only n2.symm on3); have ca3 := RC3.out w4 (hrow.only n2.symm on3); have ca4 := RC4.out w4 (hrow.only n2.symm on3); have ca5 := RC5.out w4 (hrow.only n2.symm on3); have ca6 := RC6.out w4 (hrow.only n2.symm on3); have ca7 := RC7.out w4 (hrow.only n2.symm on3); simp only [Act.put]) | (refine wpList_storeI szB (.tmp 352) (.tmp 351) bd b3 .u8 y13 kk3 nb3 rfl rfl rfl rfl ?_; intro w5 o4 kk4; have on4 := on3.trans o4; clear ca0 ca1 ca2 ca3 ca4 ca5 ca6 ca7; have ca0 := RC0.out w5 (hrow.only n2.symm on4); have ca1 := RC1.out w5 (hrow.only n2.symm on4); have ca2 := RC2.out w5 (hrow.only n2.symm on4); have ca3 := RC3.out w5 (hrow.only n2.symm on4); have ca4 := RC4.out w5 (hrow.only n2.symm on4); have ca5 := RC5.out w5 (hrow.only n2.symm on4); have ca6 := RC6.out w5 (hrow.only n2.symm on4); have ca7 := RC7.out w5 (hrow.only n2.symm on4); simp only [Act.put]) | (refine wpList_storeI szB (.tmp 365) (.tmp 364) bd b4 .u8 y18 kk4 nb4 rfl rfl rfl rfl ?_; intro w6 o5 kk5; have on5 := on4.trans o5; clear ca0 ca1 ca2 ca3 ca4 ca5 ca6 ca7; have ca0 := RC0.out w6 (hrow.only n2.symm on5); have ca1 := RC1.out w6 (hrow.only n2.symm on5); have ca2 := RC2.out w6 (hrow.only n2.symm on5); have ca3 := RC3.out w6 (hrow.only n2.symm on5); have ca4 := RC4.out w6 (hrow.only n2.symm on5); have ca5 := RC5.out w6 (hrow.only n2.symm on5); have ca6 := RC6.out w6 (hrow.only n2.symm on5); have ca7 := RC7.out w6 (hrow.only n2.symm on5); simp only [Act.put]) | (refine wpList_storeI szB (.tmp 378) (.tmp 377) bd b5 .u8 y23 kk5 nb5 rfl rfl rfl rfl ?_; intro w7 o6 kk6; have on6 := on5.trans o6; clear ca0 ca1 ca2 ca3 ca4 ca5 ca6 ca7; have ca0 := RC0.out w7 (hrow.only n2.symm on6); have ca1 := RC1.out w7 (hrow.only n2.symm on6); have ca2 := RC2.out w7 (hrow.only n2.symm on6); have ca3 := RC3.out w7 (hrow.only n2.symm on6); have ca4 := RC4.out w7 (hrow.only n2.symm on6); have ca5 := RC5.out w7 (hrow.only n2.symm on6); have ca6 := RC6.out w7 (hrow.only n2.symm on6); have ca7 := RC7.out w7 (hrow.only n2.symm on6); simp only [Act.put]) | (refine wpList_storeI szB (.tmp 391) (.tmp 390) bd b6 .u8 y28 kk6 nb6 rfl rfl rfl rfl ?_; intro w8 o7 kk7; have on7 := on6.trans o7; clear ca0 ca1 ca2 ca3 ca4 ca5 ca6 ca7; have ca0 := RC0.out w8 (hrow.only n2.symm on7); have ca1 := RC1.out w8 (hrow.only n2.symm on7); have ca2 := RC2.out w8 (hrow.only n2.symm on7); have ca3 := RC3.out w8 (hrow.only n2.symm on7); have ca4 := RC4.out w8 (hrow.only n2.symm on7); have ca5 := RC5.out w8 (hrow.only n2.symm on7); have ca6 := RC6.out w8 (hrow.only n2.symm on7); have ca7 := RC7.out w8 (hrow.only n2.symm on7); simp only [Act.put]) | (refine wpList_storeI szB (.tmp 399) (.tmp 398) bd b7 .u8 y30 kk7 nb7 rfl rfl rfl rfl ?_; intro w9 o8 kk8; have on8 := on7.trans o8; clear ca0 ca1 ca2 ca3 ca4 ca5 ca6 ca7; have ca0 := RC0.out w9 (hrow.only n2.symm on8); have ca1 := RC1.out w9 (hrow.only n2.symm on8); have ca2 := RC2.out w9 (hrow.only n2.symm on8); have ca3 := RC3.out w9 (hrow.only n2.symm on8); have ca4 := RC4.out w9 (hrow.only n2.symm on8); have ca5 := RC5.out w9 (hrow.only n2.symm on8); have ca6 := RC6.out w9 (hrow.only n2.symm on8); have ca7 := RC7.out w9 (hrow.only n2.symm on8); simp only [Act.put]) | (refine wpList_storeI szB (.tmp 412) (.tmp 411) bd b8 .u8 y35 kk8 nb8 rfl rfl rfl rfl ?_; intro w10 o9 kk9; have on9 := on8.trans o9; clear ca0 ca1 ca2 ca3 ca4 ca5 ca6 ca7; have ca0 := RC0.out w10 (hrow.only n2.symm on9); have ca1 := RC1.out w10 (hrow.only n2.symm on9); have ca2 := RC2.out w10 (hrow.only n2.symm on9); have ca3 := RC3.out w10 (hrow.only n2.symm on9); have ca4 := RC4.out w10 (hrow.only n2.symm on9); have ca5 := RC5.out w10 (hrow.only n2.symm on9); have ca6 := RC6.out w10 (hrow.only n2.symm on9); have ca7 := RC7.out w10 (hrow.only n2.symm on9); simp only [Act.put]) | (refine wpList_storeI szB (.tmp 425) (.tmp 424) bd b9 .u8 y40 kk9 nb9 rfl rfl rfl rfl ?_; intro w11 o10 kk10; have on10 := on9.trans o10; clear ca0 ca1 ca2 ca3 ca4 ca5 ca6 ca7; have ca0 := RC0.out w11 (hrow.only n2.symm on10); have ca1 := RC1.out w11 (hrow.only n2.symm on10); have ca2 := RC2.out w11 (hrow.only n2.symm on10); have ca3 := RC3.out w11 (hrow.only n2.symm on10); have ca4 := RC4.out w11 (hrow.only n2.symm on10); have ca5 := RC5.out w11 (hrow.only n2.symm on10); have ca6 := RC6.out w11 (hrow.only n2.symm on10); have ca7 := RC7.out w11 (hrow.only n2.symm on10); simp only [Act.put]) | (refine wpList_storeI szB (.tmp 433) (.tmp 432) bd b10 .u8 y42 kk10 nb10 rfl rfl rfl rfl ?_; intro w12 o11 kk11; have on11 := on10.trans o11; clear ca0 ca1 ca2 ca3 ca4 ca5 ca6 ca7; have ca0 := RC0.out w12 (hrow.only n2.symm on11); have ca1 := RC1.out w12 (hrow.only n2.symm on11); have ca2 := RC2.out w12 (hrow.only n2.symm on11); have ca3 := RC3.out w12 (hrow.only n2.symm on11); have ca4 := RC4.out w12 (hrow.only n2.symm on11); have ca5 := RC5.out w12 (hrow.only n2.symm on11); have ca6 := RC6.out w12 (hrow.only n2.symm on11); have ca7 := RC7.out w12 (hrow.only n2.symm on11); simp only [Act.put]))
          go_roundw
          case rel =>
            have eb0 := Eb0.out
            have eb1 := Eb1.out
            have eb2 := Eb2.out
            have eb3 := Eb3.out
            have eb4 := Eb4.out
            have eb5 := Eb5.out
            have eb6 := Eb6.out
            have eb7 := Eb7.out
            have eb8 := Eb8.out
            have eb9 := Eb9.out
            have eb10 := Eb10.out
            refine ⟨r + 1, _, by omega, by go_num, by go_num, HR.out.1.trans (Only2.of2 on11), on11.blk n2.symm hbt, ?_⟩
            refine kk11.congr fun x hx => ?_
            unfold upto ints
            by_cases c10 : x = b10
            · rw [if_pos c10, if_pos (by omega), c10, HG10.out, FIN10.out]
            rw [if_neg c10]
            by_cases c9 : x = b9
            · rw [if_pos c9, if_pos (by omega), c9, HG9.out, FIN9.out]
            rw [if_neg c9]
            by_cases c8 : x = b8
            · rw [if_pos c8, if_pos (by omega), c8, HG8.out, FIN8.out]
            rw [if_neg c8]
            by_cases c7 : x = b7
            · rw [if_pos c7, if_pos (by omega), c7, HG7.out, FIN7.out]
            rw [if_neg c7]
            by_cases c6 : x = b6
            · rw [if_pos c6, if_pos (by omega), c6, HG6.out, FIN6.out]
            rw [if_neg c6]
            by_cases c5 : x = b5
            · rw [if_pos c5, if_pos (by omega), c5, HG5.out, FIN5.out]
            rw [if_neg c5]
            by_cases c4 : x = b4
            · rw [if_pos c4, if_pos (by omega), c4, HG4.out, FIN4.out]
            rw [if_neg c4]
            by_cases c3 : x = b3
            · rw [if_pos c3, if_pos (by omega), c3, HG3.out, FIN3.out]
            rw [if_neg c3]
            by_cases c2 : x = b2
            · rw [if_pos c2, if_pos (by omega), c2, HG2.out, FIN2.out]
            rw [if_neg c2]
            by_cases c1 : x = b1
            · rw [if_pos c1, if_pos (by omega), c1, HG1.out, FIN1.out]
            rw [if_neg c1]
            by_cases c0 : x = b0
            · rw [if_pos c0, if_pos (by omega), c0, HG0.out, FIN0.out]
            rw [if_neg c0]
            by_cases hlt : x < 11 * r
            · rw [if_pos hlt, if_pos (by omega)]
            · rw [if_neg hlt, if_neg (by omega)]
          case measure => simp [intOf]; omega
    · have hr' : r = 32 := by omega
      subst hr'
      clear kt hd HH HS hs hf
      go_wp2_with fail
      go_end0
      refine ⟨rfl, ?_, by rw [show 11 * 32 = 352 by omega, upto_all] at hbk; exact hbk⟩
      exact hon.ext HX.out hw0 hsz
end Go.Proofs.Ytngmpnkhdjnhoaa.comp11
