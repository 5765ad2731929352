/- UnpackT0 (Dilithium). -/
import Derived.Test.YtgkombmhadgioaaDTab
import Derived.Test.YtgkombmhadgioaaEnc
import Derived.Test.YtgkombmhadgioaaStore
import Derived.Lib.Hide
namespace Go.Proofs.Ytgkombmhadgioaa
open Go Go.Proofs Go.RowKit Go.Kd
set_option linter.unusedSimpArgs false
set_option linter.unusedVariables false
theorem szB0 : (Try.prog.info? 5).map (·.size) = some 1 := by kernel_rfl
theorem szU0 : (Try.prog.info? 23).map (·.size) = some 1 := by kernel_rfl
theorem unpackT0_any_ar0 (x1 x0 g : Int) (h_x1 : 0 ≤ x1 ∧ x1 ≤ 255) (h_x0 : 0 ≤ x0 ∧ x0 ≤ 255) (hg : g = 8384513 - (x0 + x1 % 32 * 256)) : ∃ y1 y2 y3 y4 : Int, IntKind.u32.wrap (x1 * 256) = y1 ∧ bits .or .u32 x0 y1 = y2 ∧ bits .and .u32 y2 8191 = y3 ∧ IntKind.u32.wrap (8384513 - y3) = y4 ∧ (x1 * 256) % 4294967296 = y1 ∧ (8384513 - y3) % 4294967296 = y4 ∧ y4 = g := by
  obtain ⟨y1, hy1⟩ : ∃ y, IntKind.u32.wrap (x1 * 256) = y := ⟨_, rfl⟩
  have my1 : y1 = (x1 * 256) % 4294967296 := by rw [← hy1, IntKind.wrap_u32]
  obtain ⟨y2, hy2⟩ : ∃ y, bits .or .u32 x0 y1 = y := ⟨_, rfl⟩
  have my2 : y2 = x0 + y1 := by rw [← hy2]; exact or_u32 x0 y1 8 (y1 / 256) (by omega) (by omega) (by omega) (by omega) (by omega)
  obtain ⟨y3, hy3⟩ : ∃ y, bits .and .u32 y2 8191 = y := ⟨_, rfl⟩
  have my3 : y3 = y2 % 8192 := by rw [← hy3]; exact and_u32 y2 13 _ (by omega) (by decide) (by decide)
  obtain ⟨y4, hy4⟩ : ∃ y, IntKind.u32.wrap (8384513 - y3) = y := ⟨_, rfl⟩
  have my4 : y4 = (8384513 - y3) % 4294967296 := by rw [← hy4, IntKind.wrap_u32]
  exact ⟨y1, y2, y3, y4, hy1, hy2, hy3, hy4, my1.symm, my4.symm, by rw [hg]; omega⟩
theorem unpackT0_any_ar1 (x1 x2 x3 g : Int) (h_x1 : 0 ≤ x1 ∧ x1 ≤ 255) (h_x2 : 0 ≤ x2 ∧ x2 ≤ 255) (h_x3 : 0 ≤ x3 ∧ x3 ≤ 255) (hg : g = 8384513 - (x1 / 32 + x2 * 8 + x3 % 4 * 2048)) : ∃ y5 y6 y7 y8 y9 y10 y11 : Int, x1 / 32 = y5 ∧ IntKind.u32.wrap (x2 * 8) = y6 ∧ bits .or .u32 y5 y6 = y7 ∧ IntKind.u32.wrap (x3 * 2048) = y8 ∧ bits .or .u32 y7 y8 = y9 ∧ bits .and .u32 y9 8191 = y10 ∧ IntKind.u32.wrap (8384513 - y10) = y11 ∧ (x2 * 8) % 4294967296 = y6 ∧ (x3 * 2048) % 4294967296 = y8 ∧ (8384513 - y10) % 4294967296 = y11 ∧ y11 = g := by
  obtain ⟨y5, hy5⟩ : ∃ y, x1 / 32 = y := ⟨_, rfl⟩
  have my5 : y5 = x1 / 32 := hy5.symm
  obtain ⟨y6, hy6⟩ : ∃ y, IntKind.u32.wrap (x2 * 8) = y := ⟨_, rfl⟩
  have my6 : y6 = (x2 * 8) % 4294967296 := by rw [← hy6, IntKind.wrap_u32]
  obtain ⟨y7, hy7⟩ : ∃ y, bits .or .u32 y5 y6 = y := ⟨_, rfl⟩
  have my7 : y7 = y5 + y6 := by rw [← hy7]; exact or_u32 y5 y6 3 (y6 / 8) (by omega) (by omega) (by omega) (by omega) (by omega)
  obtain ⟨y8, hy8⟩ : ∃ y, IntKind.u32.wrap (x3 * 2048) = y := ⟨_, rfl⟩
  have my8 : y8 = (x3 * 2048) % 4294967296 := by rw [← hy8, IntKind.wrap_u32]
  obtain ⟨y9, hy9⟩ : ∃ y, bits .or .u32 y7 y8 = y := ⟨_, rfl⟩
  have my9 : y9 = y7 + y8 := by rw [← hy9]; exact or_u32 y7 y8 11 (y8 / 2048) (by omega) (by omega) (by omega) (by omega) (by omega)
  obtain ⟨y10, hy10⟩ : ∃ y, bits .and .u32 y9 8191 = y := ⟨_, rfl⟩
  have my10 : y10 = y9 % 8192 := by rw [← hy10]; exact and_u32 y9 13 _ (by omega) (by decide) (by decide)
  obtain ⟨y11, hy11⟩ : ∃ y, IntKind.u32.wrap (8384513 - y10) = y := ⟨_, rfl⟩
  have my11 : y11 = (8384513 - y10) % 4294967296 := by rw [← hy11, IntKind.wrap_u32]
  exact ⟨y5, y6, y7, y8, y9, y10, y11, hy5, hy6, hy7, hy8, hy9, hy10, hy11, my6.symm, my8.symm, my11.symm, by rw [hg]; omega⟩
theorem unpackT0_any_ar2 (x3 x4 g : Int) (h_x3 : 0 ≤ x3 ∧ x3 ≤ 255) (h_x4 : 0 ≤ x4 ∧ x4 ≤ 255) (hg : g = 8384513 - (x3 / 4 + x4 % 128 * 64)) : ∃ y12 y13 y14 y15 y16 : Int, x3 / 4 = y12 ∧ IntKind.u32.wrap (x4 * 64) = y13 ∧ bits .or .u32 y12 y13 = y14 ∧ bits .and .u32 y14 8191 = y15 ∧ IntKind.u32.wrap (8384513 - y15) = y16 ∧ (x4 * 64) % 4294967296 = y13 ∧ (8384513 - y15) % 4294967296 = y16 ∧ y16 = g := by
  obtain ⟨y12, hy12⟩ : ∃ y, x3 / 4 = y := ⟨_, rfl⟩
  have my12 : y12 = x3 / 4 := hy12.symm
  obtain ⟨y13, hy13⟩ : ∃ y, IntKind.u32.wrap (x4 * 64) = y := ⟨_, rfl⟩
  have my13 : y13 = (x4 * 64) % 4294967296 := by rw [← hy13, IntKind.wrap_u32]
  obtain ⟨y14, hy14⟩ : ∃ y, bits .or .u32 y12 y13 = y := ⟨_, rfl⟩
  have my14 : y14 = y12 + y13 := by rw [← hy14]; exact or_u32 y12 y13 6 (y13 / 64) (by omega) (by omega) (by omega) (by omega) (by omega)
  obtain ⟨y15, hy15⟩ : ∃ y, bits .and .u32 y14 8191 = y := ⟨_, rfl⟩
  have my15 : y15 = y14 % 8192 := by rw [← hy15]; exact and_u32 y14 13 _ (by omega) (by decide) (by decide)
  obtain ⟨y16, hy16⟩ : ∃ y, IntKind.u32.wrap (8384513 - y15) = y := ⟨_, rfl⟩
  have my16 : y16 = (8384513 - y15) % 4294967296 := by rw [← hy16, IntKind.wrap_u32]
  exact ⟨y12, y13, y14, y15, y16, hy12, hy13, hy14, hy15, hy16, my13.symm, my16.symm, by rw [hg]; omega⟩
theorem unpackT0_any_ar3 (x4 x5 x6 g : Int) (h_x4 : 0 ≤ x4 ∧ x4 ≤ 255) (h_x5 : 0 ≤ x5 ∧ x5 ≤ 255) (h_x6 : 0 ≤ x6 ∧ x6 ≤ 255) (hg : g = 8384513 - (x4 / 128 + x5 * 2 + x6 % 16 * 512)) : ∃ y17 y18 y19 y20 y21 y22 y23 : Int, x4 / 128 = y17 ∧ IntKind.u32.wrap (x5 * 2) = y18 ∧ bits .or .u32 y17 y18 = y19 ∧ IntKind.u32.wrap (x6 * 512) = y20 ∧ bits .or .u32 y19 y20 = y21 ∧ bits .and .u32 y21 8191 = y22 ∧ IntKind.u32.wrap (8384513 - y22) = y23 ∧ (x5 * 2) % 4294967296 = y18 ∧ (x6 * 512) % 4294967296 = y20 ∧ (8384513 - y22) % 4294967296 = y23 ∧ y23 = g := by
  obtain ⟨y17, hy17⟩ : ∃ y, x4 / 128 = y := ⟨_, rfl⟩
  have my17 : y17 = x4 / 128 := hy17.symm
  obtain ⟨y18, hy18⟩ : ∃ y, IntKind.u32.wrap (x5 * 2) = y := ⟨_, rfl⟩
  have my18 : y18 = (x5 * 2) % 4294967296 := by rw [← hy18, IntKind.wrap_u32]
  obtain ⟨y19, hy19⟩ : ∃ y, bits .or .u32 y17 y18 = y := ⟨_, rfl⟩
  have my19 : y19 = y17 + y18 := by rw [← hy19]; exact or_u32 y17 y18 1 (y18 / 2) (by omega) (by omega) (by omega) (by omega) (by omega)
  obtain ⟨y20, hy20⟩ : ∃ y, IntKind.u32.wrap (x6 * 512) = y := ⟨_, rfl⟩
  have my20 : y20 = (x6 * 512) % 4294967296 := by rw [← hy20, IntKind.wrap_u32]
  obtain ⟨y21, hy21⟩ : ∃ y, bits .or .u32 y19 y20 = y := ⟨_, rfl⟩
  have my21 : y21 = y19 + y20 := by rw [← hy21]; exact or_u32 y19 y20 9 (y20 / 512) (by omega) (by omega) (by omega) (by omega) (by omega)
  obtain ⟨y22, hy22⟩ : ∃ y, bits .and .u32 y21 8191 = y := ⟨_, rfl⟩
  have my22 : y22 = y21 % 8192 := by rw [← hy22]; exact and_u32 y21 13 _ (by omega) (by decide) (by decide)
  obtain ⟨y23, hy23⟩ : ∃ y, IntKind.u32.wrap (8384513 - y22) = y := ⟨_, rfl⟩
  have my23 : y23 = (8384513 - y22) % 4294967296 := by rw [← hy23, IntKind.wrap_u32]
  exact ⟨y17, y18, y19, y20, y21, y22, y23, hy17, hy18, hy19, hy20, hy21, hy22, hy23, my18.symm, my20.symm, my23.symm, by rw [hg]; omega⟩
theorem unpackT0_any_ar4 (x6 x7 x8 g : Int) (h_x6 : 0 ≤ x6 ∧ x6 ≤ 255) (h_x7 : 0 ≤ x7 ∧ x7 ≤ 255) (h_x8 : 0 ≤ x8 ∧ x8 ≤ 255) (hg : g = 8384513 - (x6 / 16 + x7 * 16 + x8 % 2 * 4096)) : ∃ y24 y25 y26 y27 y28 y29 y30 : Int, x6 / 16 = y24 ∧ IntKind.u32.wrap (x7 * 16) = y25 ∧ bits .or .u32 y24 y25 = y26 ∧ IntKind.u32.wrap (x8 * 4096) = y27 ∧ bits .or .u32 y26 y27 = y28 ∧ bits .and .u32 y28 8191 = y29 ∧ IntKind.u32.wrap (8384513 - y29) = y30 ∧ (x7 * 16) % 4294967296 = y25 ∧ (x8 * 4096) % 4294967296 = y27 ∧ (8384513 - y29) % 4294967296 = y30 ∧ y30 = g := by
  obtain ⟨y24, hy24⟩ : ∃ y, x6 / 16 = y := ⟨_, rfl⟩
  have my24 : y24 = x6 / 16 := hy24.symm
  obtain ⟨y25, hy25⟩ : ∃ y, IntKind.u32.wrap (x7 * 16) = y := ⟨_, rfl⟩
  have my25 : y25 = (x7 * 16) % 4294967296 := by rw [← hy25, IntKind.wrap_u32]
  obtain ⟨y26, hy26⟩ : ∃ y, bits .or .u32 y24 y25 = y := ⟨_, rfl⟩
  have my26 : y26 = y24 + y25 := by rw [← hy26]; exact or_u32 y24 y25 4 (y25 / 16) (by omega) (by omega) (by omega) (by omega) (by omega)
  obtain ⟨y27, hy27⟩ : ∃ y, IntKind.u32.wrap (x8 * 4096) = y := ⟨_, rfl⟩
  have my27 : y27 = (x8 * 4096) % 4294967296 := by rw [← hy27, IntKind.wrap_u32]
  obtain ⟨y28, hy28⟩ : ∃ y, bits .or .u32 y26 y27 = y := ⟨_, rfl⟩
  have my28 : y28 = y26 + y27 := by rw [← hy28]; exact or_u32 y26 y27 12 (y27 / 4096) (by omega) (by omega) (by omega) (by omega) (by omega)
  obtain ⟨y29, hy29⟩ : ∃ y, bits .and .u32 y28 8191 = y := ⟨_, rfl⟩
  have my29 : y29 = y28 % 8192 := by rw [← hy29]; exact and_u32 y28 13 _ (by omega) (by decide) (by decide)
  obtain ⟨y30, hy30⟩ : ∃ y, IntKind.u32.wrap (8384513 - y29) = y := ⟨_, rfl⟩
  have my30 : y30 = (8384513 - y29) % 4294967296 := by rw [← hy30, IntKind.wrap_u32]
  exact ⟨y24, y25, y26, y27, y28, y29, y30, hy24, hy25, hy26, hy27, hy28, hy29, hy30, my25.symm, my27.symm, my30.symm, by rw [hg]; omega⟩
theorem unpackT0_any_ar5 (x8 x9 g : Int) (h_x8 : 0 ≤ x8 ∧ x8 ≤ 255) (h_x9 : 0 ≤ x9 ∧ x9 ≤ 255) (hg : g = 8384513 - (x8 / 2 + x9 % 64 * 128)) : ∃ y31 y32 y33 y34 y35 : Int, x8 / 2 = y31 ∧ IntKind.u32.wrap (x9 * 128) = y32 ∧ bits .or .u32 y31 y32 = y33 ∧ bits .and .u32 y33 8191 = y34 ∧ IntKind.u32.wrap (8384513 - y34) = y35 ∧ (x9 * 128) % 4294967296 = y32 ∧ (8384513 - y34) % 4294967296 = y35 ∧ y35 = g := by
  obtain ⟨y31, hy31⟩ : ∃ y, x8 / 2 = y := ⟨_, rfl⟩
  have my31 : y31 = x8 / 2 := hy31.symm
  obtain ⟨y32, hy32⟩ : ∃ y, IntKind.u32.wrap (x9 * 128) = y := ⟨_, rfl⟩
  have my32 : y32 = (x9 * 128) % 4294967296 := by rw [← hy32, IntKind.wrap_u32]
  obtain ⟨y33, hy33⟩ : ∃ y, bits .or .u32 y31 y32 = y := ⟨_, rfl⟩
  have my33 : y33 = y31 + y32 := by rw [← hy33]; exact or_u32 y31 y32 7 (y32 / 128) (by omega) (by omega) (by omega) (by omega) (by omega)
  obtain ⟨y34, hy34⟩ : ∃ y, bits .and .u32 y33 8191 = y := ⟨_, rfl⟩
  have my34 : y34 = y33 % 8192 := by rw [← hy34]; exact and_u32 y33 13 _ (by omega) (by decide) (by decide)
  obtain ⟨y35, hy35⟩ : ∃ y, IntKind.u32.wrap (8384513 - y34) = y := ⟨_, rfl⟩
  have my35 : y35 = (8384513 - y34) % 4294967296 := by rw [← hy35, IntKind.wrap_u32]
  exact ⟨y31, y32, y33, y34, y35, hy31, hy32, hy33, hy34, hy35, my32.symm, my35.symm, by rw [hg]; omega⟩
theorem unpackT0_any_ar6 (x9 x10 x11 g : Int) (h_x9 : 0 ≤ x9 ∧ x9 ≤ 255) (h_x10 : 0 ≤ x10 ∧ x10 ≤ 255) (h_x11 : 0 ≤ x11 ∧ x11 ≤ 255) (hg : g = 8384513 - (x9 / 64 + x10 * 4 + x11 % 8 * 1024)) : ∃ y36 y37 y38 y39 y40 y41 y42 : Int, x9 / 64 = y36 ∧ IntKind.u32.wrap (x10 * 4) = y37 ∧ bits .or .u32 y36 y37 = y38 ∧ IntKind.u32.wrap (x11 * 1024) = y39 ∧ bits .or .u32 y38 y39 = y40 ∧ bits .and .u32 y40 8191 = y41 ∧ IntKind.u32.wrap (8384513 - y41) = y42 ∧ (x10 * 4) % 4294967296 = y37 ∧ (x11 * 1024) % 4294967296 = y39 ∧ (8384513 - y41) % 4294967296 = y42 ∧ y42 = g := by
  obtain ⟨y36, hy36⟩ : ∃ y, x9 / 64 = y := ⟨_, rfl⟩
  have my36 : y36 = x9 / 64 := hy36.symm
  obtain ⟨y37, hy37⟩ : ∃ y, IntKind.u32.wrap (x10 * 4) = y := ⟨_, rfl⟩
  have my37 : y37 = (x10 * 4) % 4294967296 := by rw [← hy37, IntKind.wrap_u32]
  obtain ⟨y38, hy38⟩ : ∃ y, bits .or .u32 y36 y37 = y := ⟨_, rfl⟩
  have my38 : y38 = y36 + y37 := by rw [← hy38]; exact or_u32 y36 y37 2 (y37 / 4) (by omega) (by omega) (by omega) (by omega) (by omega)
  obtain ⟨y39, hy39⟩ : ∃ y, IntKind.u32.wrap (x11 * 1024) = y := ⟨_, rfl⟩
  have my39 : y39 = (x11 * 1024) % 4294967296 := by rw [← hy39, IntKind.wrap_u32]
  obtain ⟨y40, hy40⟩ : ∃ y, bits .or .u32 y38 y39 = y := ⟨_, rfl⟩
  have my40 : y40 = y38 + y39 := by rw [← hy40]; exact or_u32 y38 y39 10 (y39 / 1024) (by omega) (by omega) (by omega) (by omega) (by omega)
  obtain ⟨y41, hy41⟩ : ∃ y, bits .and .u32 y40 8191 = y := ⟨_, rfl⟩
  have my41 : y41 = y40 % 8192 := by rw [← hy41]; exact and_u32 y40 13 _ (by omega) (by decide) (by decide)
  obtain ⟨y42, hy42⟩ : ∃ y, IntKind.u32.wrap (8384513 - y41) = y := ⟨_, rfl⟩
  have my42 : y42 = (8384513 - y41) % 4294967296 := by rw [← hy42, IntKind.wrap_u32]
  exact ⟨y36, y37, y38, y39, y40, y41, y42, hy36, hy37, hy38, hy39, hy40, hy41, hy42, my37.symm, my39.symm, my42.symm, by rw [hg]; omega⟩
theorem unpackT0_any_ar7 (x11 x12 g : Int) (h_x11 : 0 ≤ x11 ∧ x11 ≤ 255) (h_x12 : 0 ≤ x12 ∧ x12 ≤ 255) (hg : g = 8384513 - (x11 / 8 + x12 * 32)) : ∃ y43 y44 y45 y46 : Int, x11 / 8 = y43 ∧ IntKind.u32.wrap (x12 * 32) = y44 ∧ bits .or .u32 y43 y44 = y45 ∧ IntKind.u32.wrap (8384513 - y45) = y46 ∧ (x12 * 32) % 4294967296 = y44 ∧ (8384513 - y45) % 4294967296 = y46 ∧ y46 = g := by
  obtain ⟨y43, hy43⟩ : ∃ y, x11 / 8 = y := ⟨_, rfl⟩
  have my43 : y43 = x11 / 8 := hy43.symm
  obtain ⟨y44, hy44⟩ : ∃ y, IntKind.u32.wrap (x12 * 32) = y := ⟨_, rfl⟩
  have my44 : y44 = (x12 * 32) % 4294967296 := by rw [← hy44, IntKind.wrap_u32]
  obtain ⟨y45, hy45⟩ : ∃ y, bits .or .u32 y43 y44 = y := ⟨_, rfl⟩
  have my45 : y45 = y43 + y44 := by rw [← hy45]; exact or_u32 y43 y44 5 (y44 / 32) (by omega) (by omega) (by omega) (by omega) (by omega)
  obtain ⟨y46, hy46⟩ : ∃ y, IntKind.u32.wrap (8384513 - y45) = y := ⟨_, rfl⟩
  have my46 : y46 = (8384513 - y45) % 4294967296 := by rw [← hy46, IntKind.wrap_u32]
  exact ⟨y43, y44, y45, y46, hy43, hy44, hy45, hy46, my44.symm, my46.symm, by rw [hg]; omega⟩
set_option maxRecDepth 100000 in
set_option maxHeartbeats 6000000 in
theorem unpackT0_any (bs bd cp : Nat) (w : World) (Td : TypeId) (f G Z : Nat → Int) (hs : RowK w bs 416 .u8 f) (hd : Blk w bd Td (cellsF 256 (ints .u32 Z))) (hne : bs ≠ bd) (hf : ∀ i, i < 416 → 0 ≤ f i ∧ f i ≤ 255)
    (hG0 : ∀ r, r < 32 → G (8 * r + 0) = 8384513 - (f (13 * r + 0) + f (13 * r + 1) % 32 * 256)) (hG1 : ∀ r, r < 32 → G (8 * r + 1) = 8384513 - (f (13 * r + 1) / 32 + f (13 * r + 2) * 8 + f (13 * r + 3) % 4 * 2048)) (hG2 : ∀ r, r < 32 → G (8 * r + 2) = 8384513 - (f (13 * r + 3) / 4 + f (13 * r + 4) % 128 * 64)) (hG3 : ∀ r, r < 32 → G (8 * r + 3) = 8384513 - (f (13 * r + 4) / 128 + f (13 * r + 5) * 2 + f (13 * r + 6) % 16 * 512)) (hG4 : ∀ r, r < 32 → G (8 * r + 4) = 8384513 - (f (13 * r + 6) / 16 + f (13 * r + 7) * 16 + f (13 * r + 8) % 2 * 4096)) (hG5 : ∀ r, r < 32 → G (8 * r + 5) = 8384513 - (f (13 * r + 8) / 2 + f (13 * r + 9) % 64 * 128)) (hG6 : ∀ r, r < 32 → G (8 * r + 6) = 8384513 - (f (13 * r + 9) / 64 + f (13 * r + 10) * 4 + f (13 * r + 11) % 8 * 1024)) (hG7 : ∀ r, r < 32 → G (8 * r + 7) = 8384513 - (f (13 * r + 11) / 8 + f (13 * r + 12) * 32)) :
    Calls Try.prog 63 #[.pointer (some ⟨bd, 0, none⟩), .slice (some ⟨bs, 0, none⟩) 416 cp] w fun e w' => e = .returned (.tuple #[]) ∧ Only bd w w' ∧ Blk w' bd Td (cellsF 256 (ints .u32 G)) := by
  go_enter Try.func63, Try.ntmps63
  go_wp2_with fail
  go_loopw [4, 5] (fun x y wr => ∃ r : Nat, r ≤ 32 ∧ x = .int .i64 (8 * r : Nat) ∧ y = .int .i64 (13 * r : Nat) ∧ Only bd w wr ∧ Blk wr bd Td (cellsF 256 (upto (8 * r) (ints .u32 G) (ints .u32 Z)))) (fun _ y _ => 416 - (intOf y).toNat)
  case atStart => exact ⟨0, by omega, rfl, rfl, Only.refl _ _, by rw [upto_zero]; exact hd⟩
  case round =>
    obtain ⟨r, hr, rfl, rfl, hon, hbk⟩ := hrel
    by_cases hl : r < 32
    · have hrow : ∀ w1, Only bd w w1 → RowK w1 bs 416 .u8 f := fun w1 h => hs.only hne h
      obtain ⟨p0, ep0⟩ : ∃ p : Nat, p = 8 * r + 0 := ⟨_, rfl⟩
      obtain ⟨p1, ep1⟩ : ∃ p : Nat, p = 8 * r + 1 := ⟨_, rfl⟩
      obtain ⟨p2, ep2⟩ : ∃ p : Nat, p = 8 * r + 2 := ⟨_, rfl⟩
      obtain ⟨p3, ep3⟩ : ∃ p : Nat, p = 8 * r + 3 := ⟨_, rfl⟩
      obtain ⟨p4, ep4⟩ : ∃ p : Nat, p = 8 * r + 4 := ⟨_, rfl⟩
      obtain ⟨p5, ep5⟩ : ∃ p : Nat, p = 8 * r + 5 := ⟨_, rfl⟩
      obtain ⟨p6, ep6⟩ : ∃ p : Nat, p = 8 * r + 6 := ⟨_, rfl⟩
      obtain ⟨p7, ep7⟩ : ∃ p : Nat, p = 8 * r + 7 := ⟨_, rfl⟩
      obtain ⟨b0, eb0⟩ : ∃ p : Nat, p = 13 * r + 0 := ⟨_, rfl⟩
      obtain ⟨b1, eb1⟩ : ∃ p : Nat, p = 13 * r + 1 := ⟨_, rfl⟩
      obtain ⟨b2, eb2⟩ : ∃ p : Nat, p = 13 * r + 2 := ⟨_, rfl⟩
      obtain ⟨b3, eb3⟩ : ∃ p : Nat, p = 13 * r + 3 := ⟨_, rfl⟩
      obtain ⟨b4, eb4⟩ : ∃ p : Nat, p = 13 * r + 4 := ⟨_, rfl⟩
      obtain ⟨b5, eb5⟩ : ∃ p : Nat, p = 13 * r + 5 := ⟨_, rfl⟩
      obtain ⟨b6, eb6⟩ : ∃ p : Nat, p = 13 * r + 6 := ⟨_, rfl⟩
      obtain ⟨b7, eb7⟩ : ∃ p : Nat, p = 13 * r + 7 := ⟨_, rfl⟩
      obtain ⟨b8, eb8⟩ : ∃ p : Nat, p = 13 * r + 8 := ⟨_, rfl⟩
      obtain ⟨b9, eb9⟩ : ∃ p : Nat, p = 13 * r + 9 := ⟨_, rfl⟩
      obtain ⟨b10, eb10⟩ : ∃ p : Nat, p = 13 * r + 10 := ⟨_, rfl⟩
      obtain ⟨b11, eb11⟩ : ∃ p : Nat, p = 13 * r + 11 := ⟨_, rfl⟩
      obtain ⟨b12, eb12⟩ : ∃ p : Nat, p = 13 * r + 12 := ⟨_, rfl⟩
      obtain ⟨la0, lb0⟩ := hf b0 (by omega)
      obtain ⟨la1, lb1⟩ := hf b1 (by omega)
      obtain ⟨la2, lb2⟩ := hf b2 (by omega)
      obtain ⟨la3, lb3⟩ := hf b3 (by omega)
      obtain ⟨la4, lb4⟩ := hf b4 (by omega)
      obtain ⟨la5, lb5⟩ := hf b5 (by omega)
      obtain ⟨la6, lb6⟩ := hf b6 (by omega)
      obtain ⟨la7, lb7⟩ := hf b7 (by omega)
      obtain ⟨la8, lb8⟩ := hf b8 (by omega)
      obtain ⟨la9, lb9⟩ := hf b9 (by omega)
      obtain ⟨la10, lb10⟩ := hf b10 (by omega)
      obtain ⟨la11, lb11⟩ := hf b11 (by omega)
      obtain ⟨la12, lb12⟩ := hf b12 (by omega)
      have gg0 : G p0 = 8384513 - (f b0 + f b1 % 32 * 256) := by rw [ep0, hG0 r hl]; simp only [eb0, eb1, eb2, eb3, eb4, eb5, eb6, eb7, eb8, eb9, eb10, eb11, eb12]
      have gg1 : G p1 = 8384513 - (f b1 / 32 + f b2 * 8 + f b3 % 4 * 2048) := by rw [ep1, hG1 r hl]; simp only [eb0, eb1, eb2, eb3, eb4, eb5, eb6, eb7, eb8, eb9, eb10, eb11, eb12]
      have gg2 : G p2 = 8384513 - (f b3 / 4 + f b4 % 128 * 64) := by rw [ep2, hG2 r hl]; simp only [eb0, eb1, eb2, eb3, eb4, eb5, eb6, eb7, eb8, eb9, eb10, eb11, eb12]
      have gg3 : G p3 = 8384513 - (f b4 / 128 + f b5 * 2 + f b6 % 16 * 512) := by rw [ep3, hG3 r hl]; simp only [eb0, eb1, eb2, eb3, eb4, eb5, eb6, eb7, eb8, eb9, eb10, eb11, eb12]
      have gg4 : G p4 = 8384513 - (f b6 / 16 + f b7 * 16 + f b8 % 2 * 4096) := by rw [ep4, hG4 r hl]; simp only [eb0, eb1, eb2, eb3, eb4, eb5, eb6, eb7, eb8, eb9, eb10, eb11, eb12]
      have gg5 : G p5 = 8384513 - (f b8 / 2 + f b9 % 64 * 128) := by rw [ep5, hG5 r hl]; simp only [eb0, eb1, eb2, eb3, eb4, eb5, eb6, eb7, eb8, eb9, eb10, eb11, eb12]
      have gg6 : G p6 = 8384513 - (f b9 / 64 + f b10 * 4 + f b11 % 8 * 1024) := by rw [ep6, hG6 r hl]; simp only [eb0, eb1, eb2, eb3, eb4, eb5, eb6, eb7, eb8, eb9, eb10, eb11, eb12]
      have gg7 : G p7 = 8384513 - (f b11 / 8 + f b12 * 32) := by rw [ep7, hG7 r hl]; simp only [eb0, eb1, eb2, eb3, eb4, eb5, eb6, eb7, eb8, eb9, eb10, eb11, eb12]
      generalize hx0 : f b0 = x0 at *
      generalize hx1 : f b1 = x1 at *
      generalize hx2 : f b2 = x2 at *
      generalize hx3 : f b3 = x3 at *
      generalize hx4 : f b4 = x4 at *
      generalize hx5 : f b5 = x5 at *
      generalize hx6 : f b6 = x6 at *
      generalize hx7 : f b7 = x7 at *
      generalize hx8 : f b8 = x8 at *
      generalize hx9 : f b9 = x9 at *
      generalize hx10 : f b10 = x10 at *
      generalize hx11 : f b11 = x11 at *
      generalize hx12 : f b12 = x12 at *
      generalize hg0 : G p0 = g0 at *
      generalize hg1 : G p1 = g1 at *
      generalize hg2 : G p2 = g2 at *
      generalize hg3 : G p3 = g3 at *
      generalize hg4 : G p4 = g4 at *
      generalize hg5 : G p5 = g5 at *
      generalize hg6 : G p6 = g6 at *
      generalize hg7 : G p7 = g7 at *
      have HX0 := Lib.hid hx0; clear hx0
      have HX1 := Lib.hid hx1; clear hx1
      have HX2 := Lib.hid hx2; clear hx2
      have HX3 := Lib.hid hx3; clear hx3
      have HX4 := Lib.hid hx4; clear hx4
      have HX5 := Lib.hid hx5; clear hx5
      have HX6 := Lib.hid hx6; clear hx6
      have HX7 := Lib.hid hx7; clear hx7
      have HX8 := Lib.hid hx8; clear hx8
      have HX9 := Lib.hid hx9; clear hx9
      have HX10 := Lib.hid hx10; clear hx10
      have HX11 := Lib.hid hx11; clear hx11
      have HX12 := Lib.hid hx12; clear hx12
      have HG0 := Lib.hid hg0; clear hg0
      have HG1 := Lib.hid hg1; clear hg1
      have HG2 := Lib.hid hg2; clear hg2
      have HG3 := Lib.hid hg3; clear hg3
      have HG4 := Lib.hid hg4; clear hg4
      have HG5 := Lib.hid hg5; clear hg5
      have HG6 := Lib.hid hg6; clear hg6
      have HG7 := Lib.hid hg7; clear hg7
      obtain ⟨y1, y2, y3, y4, hy1, hy2, hy3, hy4, my1, my4, fin0⟩ := unpackT0_any_ar0 x1 x0 g0 ⟨la1, lb1⟩ ⟨la0, lb0⟩ gg0
      obtain ⟨y5, y6, y7, y8, y9, y10, y11, hy5, hy6, hy7, hy8, hy9, hy10, hy11, my6, my8, my11, fin1⟩ := unpackT0_any_ar1 x1 x2 x3 g1 ⟨la1, lb1⟩ ⟨la2, lb2⟩ ⟨la3, lb3⟩ gg1
      obtain ⟨y12, y13, y14, y15, y16, hy12, hy13, hy14, hy15, hy16, my13, my16, fin2⟩ := unpackT0_any_ar2 x3 x4 g2 ⟨la3, lb3⟩ ⟨la4, lb4⟩ gg2
      obtain ⟨y17, y18, y19, y20, y21, y22, y23, hy17, hy18, hy19, hy20, hy21, hy22, hy23, my18, my20, my23, fin3⟩ := unpackT0_any_ar3 x4 x5 x6 g3 ⟨la4, lb4⟩ ⟨la5, lb5⟩ ⟨la6, lb6⟩ gg3
      obtain ⟨y24, y25, y26, y27, y28, y29, y30, hy24, hy25, hy26, hy27, hy28, hy29, hy30, my25, my27, my30, fin4⟩ := unpackT0_any_ar4 x6 x7 x8 g4 ⟨la6, lb6⟩ ⟨la7, lb7⟩ ⟨la8, lb8⟩ gg4
      obtain ⟨y31, y32, y33, y34, y35, hy31, hy32, hy33, hy34, hy35, my32, my35, fin5⟩ := unpackT0_any_ar5 x8 x9 g5 ⟨la8, lb8⟩ ⟨la9, lb9⟩ gg5
      obtain ⟨y36, y37, y38, y39, y40, y41, y42, hy36, hy37, hy38, hy39, hy40, hy41, hy42, my37, my39, my42, fin6⟩ := unpackT0_any_ar6 x9 x10 x11 g6 ⟨la9, lb9⟩ ⟨la10, lb10⟩ ⟨la11, lb11⟩ gg6
      obtain ⟨y43, y44, y45, y46, hy43, hy44, hy45, hy46, my44, my46, fin7⟩ := unpackT0_any_ar7 x11 x12 g7 ⟨la11, lb11⟩ ⟨la12, lb12⟩ gg7
      have wd_u32_x0 : IntKind.u32.wrap x0 = x0 := by rw [IntKind.wrap_u32]; omega
      have wd_u32_x1 : IntKind.u32.wrap x1 = x1 := by rw [IntKind.wrap_u32]; omega
      have wd_u32_x10 : IntKind.u32.wrap x10 = x10 := by rw [IntKind.wrap_u32]; omega
      have wd_u32_x11 : IntKind.u32.wrap x11 = x11 := by rw [IntKind.wrap_u32]; omega
      have wd_u32_x12 : IntKind.u32.wrap x12 = x12 := by rw [IntKind.wrap_u32]; omega
      have wd_u32_x2 : IntKind.u32.wrap x2 = x2 := by rw [IntKind.wrap_u32]; omega
      have wd_u32_x3 : IntKind.u32.wrap x3 = x3 := by rw [IntKind.wrap_u32]; omega
      have wd_u32_x4 : IntKind.u32.wrap x4 = x4 := by rw [IntKind.wrap_u32]; omega
      have wd_u32_x5 : IntKind.u32.wrap x5 = x5 := by rw [IntKind.wrap_u32]; omega
      have wd_u32_x6 : IntKind.u32.wrap x6 = x6 := by rw [IntKind.wrap_u32]; omega
      have wd_u32_x7 : IntKind.u32.wrap x7 = x7 := by rw [IntKind.wrap_u32]; omega
      have wd_u32_x8 : IntKind.u32.wrap x8 = x8 := by rw [IntKind.wrap_u32]; omega
      have wd_u32_x9 : IntKind.u32.wrap x9 = x9 := by rw [IntKind.wrap_u32]; omega
      clear gg0 gg1 gg2 gg3 gg4 gg5 gg6 gg7
      have FIN0 := Lib.hid fin0; clear fin0
      have FIN1 := Lib.hid fin1; clear fin1
      have FIN2 := Lib.hid fin2; clear fin2
      have FIN3 := Lib.hid fin3; clear fin3
      have FIN4 := Lib.hid fin4; clear fin4
      have FIN5 := Lib.hid fin5; clear fin5
      have FIN6 := Lib.hid fin6; clear fin6
      have FIN7 := Lib.hid fin7; clear fin7
      have zp0 : 8 * (r : Int) = (p0 : Int) := by omega
      have tp0 : (p0 : Int) < 256 := by omega
      have zp1 : (p0 : Int) + 1 = (p1 : Int) := by omega
      have up1 : IntKind.i64.wrap (p1 : Int) = (p1 : Int) := by rw [IntKind.wrap_i64]; omega
      have tp1 : (p1 : Int) < 256 := by omega
      have zp2 : (p0 : Int) + 2 = (p2 : Int) := by omega
      have up2 : IntKind.i64.wrap (p2 : Int) = (p2 : Int) := by rw [IntKind.wrap_i64]; omega
      have tp2 : (p2 : Int) < 256 := by omega
      have zp3 : (p0 : Int) + 3 = (p3 : Int) := by omega
      have up3 : IntKind.i64.wrap (p3 : Int) = (p3 : Int) := by rw [IntKind.wrap_i64]; omega
      have tp3 : (p3 : Int) < 256 := by omega
      have zp4 : (p0 : Int) + 4 = (p4 : Int) := by omega
      have up4 : IntKind.i64.wrap (p4 : Int) = (p4 : Int) := by rw [IntKind.wrap_i64]; omega
      have tp4 : (p4 : Int) < 256 := by omega
      have zp5 : (p0 : Int) + 5 = (p5 : Int) := by omega
      have up5 : IntKind.i64.wrap (p5 : Int) = (p5 : Int) := by rw [IntKind.wrap_i64]; omega
      have tp5 : (p5 : Int) < 256 := by omega
      have zp6 : (p0 : Int) + 6 = (p6 : Int) := by omega
      have up6 : IntKind.i64.wrap (p6 : Int) = (p6 : Int) := by rw [IntKind.wrap_i64]; omega
      have tp6 : (p6 : Int) < 256 := by omega
      have zp7 : (p0 : Int) + 7 = (p7 : Int) := by omega
      have up7 : IntKind.i64.wrap (p7 : Int) = (p7 : Int) := by rw [IntKind.wrap_i64]; omega
      have tp7 : (p7 : Int) < 256 := by omega
      have zb0 : 13 * (r : Int) = (b0 : Int) := by omega
      have tb0 : (b0 : Int) < 416 := by omega
      have zb1 : (b0 : Int) + 1 = (b1 : Int) := by omega
      have ub1 : IntKind.i64.wrap (b1 : Int) = (b1 : Int) := by rw [IntKind.wrap_i64]; omega
      have tb1 : (b1 : Int) < 416 := by omega
      have zb2 : (b0 : Int) + 2 = (b2 : Int) := by omega
      have ub2 : IntKind.i64.wrap (b2 : Int) = (b2 : Int) := by rw [IntKind.wrap_i64]; omega
      have tb2 : (b2 : Int) < 416 := by omega
      have zb3 : (b0 : Int) + 3 = (b3 : Int) := by omega
      have ub3 : IntKind.i64.wrap (b3 : Int) = (b3 : Int) := by rw [IntKind.wrap_i64]; omega
      have tb3 : (b3 : Int) < 416 := by omega
      have zb4 : (b0 : Int) + 4 = (b4 : Int) := by omega
      have ub4 : IntKind.i64.wrap (b4 : Int) = (b4 : Int) := by rw [IntKind.wrap_i64]; omega
      have tb4 : (b4 : Int) < 416 := by omega
      have zb5 : (b0 : Int) + 5 = (b5 : Int) := by omega
      have ub5 : IntKind.i64.wrap (b5 : Int) = (b5 : Int) := by rw [IntKind.wrap_i64]; omega
      have tb5 : (b5 : Int) < 416 := by omega
      have zb6 : (b0 : Int) + 6 = (b6 : Int) := by omega
      have ub6 : IntKind.i64.wrap (b6 : Int) = (b6 : Int) := by rw [IntKind.wrap_i64]; omega
      have tb6 : (b6 : Int) < 416 := by omega
      have zb7 : (b0 : Int) + 7 = (b7 : Int) := by omega
      have ub7 : IntKind.i64.wrap (b7 : Int) = (b7 : Int) := by rw [IntKind.wrap_i64]; omega
      have tb7 : (b7 : Int) < 416 := by omega
      have zb8 : (b0 : Int) + 8 = (b8 : Int) := by omega
      have ub8 : IntKind.i64.wrap (b8 : Int) = (b8 : Int) := by rw [IntKind.wrap_i64]; omega
      have tb8 : (b8 : Int) < 416 := by omega
      have zb9 : (b0 : Int) + 9 = (b9 : Int) := by omega
      have ub9 : IntKind.i64.wrap (b9 : Int) = (b9 : Int) := by rw [IntKind.wrap_i64]; omega
      have tb9 : (b9 : Int) < 416 := by omega
      have zb10 : (b0 : Int) + 10 = (b10 : Int) := by omega
      have ub10 : IntKind.i64.wrap (b10 : Int) = (b10 : Int) := by rw [IntKind.wrap_i64]; omega
      have tb10 : (b10 : Int) < 416 := by omega
      have zb11 : (b0 : Int) + 11 = (b11 : Int) := by omega
      have ub11 : IntKind.i64.wrap (b11 : Int) = (b11 : Int) := by rw [IntKind.wrap_i64]; omega
      have tb11 : (b11 : Int) < 416 := by omega
      have zb12 : (b0 : Int) + 12 = (b12 : Int) := by omega
      have ub12 : IntKind.i64.wrap (b12 : Int) = (b12 : Int) := by rw [IntKind.wrap_i64]; omega
      have tb12 : (b12 : Int) < 416 := by omega
      have np0 : p0 < 256 := by omega
      have np1 : p1 < 256 := by omega
      have np2 : p2 < 256 := by omega
      have np3 : p3 < 256 := by omega
      have np4 : p4 < 256 := by omega
      have np5 : p5 < 256 := by omega
      have np6 : p6 < 256 := by omega
      have np7 : p7 < 256 := by omega
      have nb0 : b0 < 416 := by omega
      have nb1 : b1 < 416 := by omega
      have nb2 : b2 < 416 := by omega
      have nb3 : b3 < 416 := by omega
      have nb4 : b4 < 416 := by omega
      have nb5 : b5 < 416 := by omega
      have nb6 : b6 < 416 := by omega
      have nb7 : b7 < 416 := by omega
      have nb8 : b8 < 416 := by omega
      have nb9 : b9 < 416 := by omega
      have nb10 : b10 < 416 := by omega
      have nb11 : b11 < 416 := by omega
      have nb12 : b12 < 416 := by omega
      have Ep0 := Lib.hid ep0; clear ep0
      have Ep1 := Lib.hid ep1; clear ep1
      have Ep2 := Lib.hid ep2; clear ep2
      have Ep3 := Lib.hid ep3; clear ep3
      have Ep4 := Lib.hid ep4; clear ep4
      have Ep5 := Lib.hid ep5; clear ep5
      have Ep6 := Lib.hid ep6; clear ep6
      have Ep7 := Lib.hid ep7; clear ep7
      have Eb0 := Lib.hid eb0; clear eb0
      have Eb1 := Lib.hid eb1; clear eb1
      have Eb2 := Lib.hid eb2; clear eb2
      have Eb3 := Lib.hid eb3; clear eb3
      have Eb4 := Lib.hid eb4; clear eb4
      have Eb5 := Lib.hid eb5; clear eb5
      have Eb6 := Lib.hid eb6; clear eb6
      have Eb7 := Lib.hid eb7; clear eb7
      have Eb8 := Lib.hid eb8; clear eb8
      have Eb9 := Lib.hid eb9; clear eb9
      have Eb10 := Lib.hid eb10; clear eb10
      have Eb11 := Lib.hid eb11; clear eb11
      have Eb12 := Lib.hid eb12; clear eb12
      have ca0 : wr.cell? ⟨bs, b0, none⟩ = some (.int .u8 x0) := (by rw [← HX0.out]; exact (hrow _ hon).2 _ nb0)
      have ca1 : wr.cell? ⟨bs, b1, none⟩ = some (.int .u8 x1) := (by rw [← HX1.out]; exact (hrow _ hon).2 _ nb1)
      have ca2 : wr.cell? ⟨bs, b2, none⟩ = some (.int .u8 x2) := (by rw [← HX2.out]; exact (hrow _ hon).2 _ nb2)
      have ca3 : wr.cell? ⟨bs, b3, none⟩ = some (.int .u8 x3) := (by rw [← HX3.out]; exact (hrow _ hon).2 _ nb3)
      have ca4 : wr.cell? ⟨bs, b4, none⟩ = some (.int .u8 x4) := (by rw [← HX4.out]; exact (hrow _ hon).2 _ nb4)
      have ca5 : wr.cell? ⟨bs, b5, none⟩ = some (.int .u8 x5) := (by rw [← HX5.out]; exact (hrow _ hon).2 _ nb5)
      have ca6 : wr.cell? ⟨bs, b6, none⟩ = some (.int .u8 x6) := (by rw [← HX6.out]; exact (hrow _ hon).2 _ nb6)
      have ca7 : wr.cell? ⟨bs, b7, none⟩ = some (.int .u8 x7) := (by rw [← HX7.out]; exact (hrow _ hon).2 _ nb7)
      have ca8 : wr.cell? ⟨bs, b8, none⟩ = some (.int .u8 x8) := (by rw [← HX8.out]; exact (hrow _ hon).2 _ nb8)
      have ca9 : wr.cell? ⟨bs, b9, none⟩ = some (.int .u8 x9) := (by rw [← HX9.out]; exact (hrow _ hon).2 _ nb9)
      have ca10 : wr.cell? ⟨bs, b10, none⟩ = some (.int .u8 x10) := (by rw [← HX10.out]; exact (hrow _ hon).2 _ nb10)
      have ca11 : wr.cell? ⟨bs, b11, none⟩ = some (.int .u8 x11) := (by rw [← HX11.out]; exact (hrow _ hon).2 _ nb11)
      have ca12 : wr.cell? ⟨bs, b12, none⟩ = some (.int .u8 x12) := (by rw [← HX12.out]; exact (hrow _ hon).2 _ nb12)
      clear hs hd hf hG0 hG1 hG2 hG3 hG4 hG5 hG6 hG7
      go_wp2_with fail
      go_still_tail 19, (by kernel_rfl)
      refine wpList_storeI szU0 (.tmp 28) (.tmp 26) bd p0 .u32 y4 hbk.drew np0 rfl rfl rfl rfl ?_
      intro w1 o1 k1
      have on1 := hon.drew.trans o1
      clear ca0 ca1 ca2 ca3 ca4 ca5 ca6 ca7 ca8 ca9 ca10 ca11 ca12
      have ca0 : w1.cell? ⟨bs, b0, none⟩ = some (.int .u8 x0) := (by rw [← HX0.out]; exact (hrow _ on1).2 _ nb0)
      have ca1 : w1.cell? ⟨bs, b1, none⟩ = some (.int .u8 x1) := (by rw [← HX1.out]; exact (hrow _ on1).2 _ nb1)
      have ca2 : w1.cell? ⟨bs, b2, none⟩ = some (.int .u8 x2) := (by rw [← HX2.out]; exact (hrow _ on1).2 _ nb2)
      have ca3 : w1.cell? ⟨bs, b3, none⟩ = some (.int .u8 x3) := (by rw [← HX3.out]; exact (hrow _ on1).2 _ nb3)
      have ca4 : w1.cell? ⟨bs, b4, none⟩ = some (.int .u8 x4) := (by rw [← HX4.out]; exact (hrow _ on1).2 _ nb4)
      have ca5 : w1.cell? ⟨bs, b5, none⟩ = some (.int .u8 x5) := (by rw [← HX5.out]; exact (hrow _ on1).2 _ nb5)
      have ca6 : w1.cell? ⟨bs, b6, none⟩ = some (.int .u8 x6) := (by rw [← HX6.out]; exact (hrow _ on1).2 _ nb6)
      have ca7 : w1.cell? ⟨bs, b7, none⟩ = some (.int .u8 x7) := (by rw [← HX7.out]; exact (hrow _ on1).2 _ nb7)
      have ca8 : w1.cell? ⟨bs, b8, none⟩ = some (.int .u8 x8) := (by rw [← HX8.out]; exact (hrow _ on1).2 _ nb8)
      have ca9 : w1.cell? ⟨bs, b9, none⟩ = some (.int .u8 x9) := (by rw [← HX9.out]; exact (hrow _ on1).2 _ nb9)
      have ca10 : w1.cell? ⟨bs, b10, none⟩ = some (.int .u8 x10) := (by rw [← HX10.out]; exact (hrow _ on1).2 _ nb10)
      have ca11 : w1.cell? ⟨bs, b11, none⟩ = some (.int .u8 x11) := (by rw [← HX11.out]; exact (hrow _ on1).2 _ nb11)
      have ca12 : w1.cell? ⟨bs, b12, none⟩ = some (.int .u8 x12) := (by rw [← HX12.out]; exact (hrow _ on1).2 _ nb12)
      simp only [Act.put]
      clear hy1 hy2 hy3 hy4 my1 my4
      go_wp2_with fail
      go_still_tail 30, (by kernel_rfl)
      refine wpList_storeI szU0 (.tmp 58) (.tmp 56) bd p1 .u32 y11 k1.drew np1 rfl rfl rfl rfl ?_
      intro w2 o2 k2
      have on2 := on1.drew.trans o2
      clear ca0 ca1 ca2 ca3 ca4 ca5 ca6 ca7 ca8 ca9 ca10 ca11 ca12
      have ca0 : w2.cell? ⟨bs, b0, none⟩ = some (.int .u8 x0) := (by rw [← HX0.out]; exact (hrow _ on2).2 _ nb0)
      have ca1 : w2.cell? ⟨bs, b1, none⟩ = some (.int .u8 x1) := (by rw [← HX1.out]; exact (hrow _ on2).2 _ nb1)
      have ca2 : w2.cell? ⟨bs, b2, none⟩ = some (.int .u8 x2) := (by rw [← HX2.out]; exact (hrow _ on2).2 _ nb2)
      have ca3 : w2.cell? ⟨bs, b3, none⟩ = some (.int .u8 x3) := (by rw [← HX3.out]; exact (hrow _ on2).2 _ nb3)
      have ca4 : w2.cell? ⟨bs, b4, none⟩ = some (.int .u8 x4) := (by rw [← HX4.out]; exact (hrow _ on2).2 _ nb4)
      have ca5 : w2.cell? ⟨bs, b5, none⟩ = some (.int .u8 x5) := (by rw [← HX5.out]; exact (hrow _ on2).2 _ nb5)
      have ca6 : w2.cell? ⟨bs, b6, none⟩ = some (.int .u8 x6) := (by rw [← HX6.out]; exact (hrow _ on2).2 _ nb6)
      have ca7 : w2.cell? ⟨bs, b7, none⟩ = some (.int .u8 x7) := (by rw [← HX7.out]; exact (hrow _ on2).2 _ nb7)
      have ca8 : w2.cell? ⟨bs, b8, none⟩ = some (.int .u8 x8) := (by rw [← HX8.out]; exact (hrow _ on2).2 _ nb8)
      have ca9 : w2.cell? ⟨bs, b9, none⟩ = some (.int .u8 x9) := (by rw [← HX9.out]; exact (hrow _ on2).2 _ nb9)
      have ca10 : w2.cell? ⟨bs, b10, none⟩ = some (.int .u8 x10) := (by rw [← HX10.out]; exact (hrow _ on2).2 _ nb10)
      have ca11 : w2.cell? ⟨bs, b11, none⟩ = some (.int .u8 x11) := (by rw [← HX11.out]; exact (hrow _ on2).2 _ nb11)
      have ca12 : w2.cell? ⟨bs, b12, none⟩ = some (.int .u8 x12) := (by rw [← HX12.out]; exact (hrow _ on2).2 _ nb12)
      simp only [Act.put]
      clear hy5 hy6 hy7 hy8 hy9 hy10 hy11 my6 my8 my11
      go_wp2_with fail
      go_still_tail 22, (by kernel_rfl)
      refine wpList_storeI szU0 (.tmp 80) (.tmp 78) bd p2 .u32 y16 k2.drew np2 rfl rfl rfl rfl ?_
      intro w3 o3 k3
      have on3 := on2.drew.trans o3
      clear ca0 ca1 ca2 ca3 ca4 ca5 ca6 ca7 ca8 ca9 ca10 ca11 ca12
      have ca0 : w3.cell? ⟨bs, b0, none⟩ = some (.int .u8 x0) := (by rw [← HX0.out]; exact (hrow _ on3).2 _ nb0)
      have ca1 : w3.cell? ⟨bs, b1, none⟩ = some (.int .u8 x1) := (by rw [← HX1.out]; exact (hrow _ on3).2 _ nb1)
      have ca2 : w3.cell? ⟨bs, b2, none⟩ = some (.int .u8 x2) := (by rw [← HX2.out]; exact (hrow _ on3).2 _ nb2)
      have ca3 : w3.cell? ⟨bs, b3, none⟩ = some (.int .u8 x3) := (by rw [← HX3.out]; exact (hrow _ on3).2 _ nb3)
      have ca4 : w3.cell? ⟨bs, b4, none⟩ = some (.int .u8 x4) := (by rw [← HX4.out]; exact (hrow _ on3).2 _ nb4)
      have ca5 : w3.cell? ⟨bs, b5, none⟩ = some (.int .u8 x5) := (by rw [← HX5.out]; exact (hrow _ on3).2 _ nb5)
      have ca6 : w3.cell? ⟨bs, b6, none⟩ = some (.int .u8 x6) := (by rw [← HX6.out]; exact (hrow _ on3).2 _ nb6)
      have ca7 : w3.cell? ⟨bs, b7, none⟩ = some (.int .u8 x7) := (by rw [← HX7.out]; exact (hrow _ on3).2 _ nb7)
      have ca8 : w3.cell? ⟨bs, b8, none⟩ = some (.int .u8 x8) := (by rw [← HX8.out]; exact (hrow _ on3).2 _ nb8)
      have ca9 : w3.cell? ⟨bs, b9, none⟩ = some (.int .u8 x9) := (by rw [← HX9.out]; exact (hrow _ on3).2 _ nb9)
      have ca10 : w3.cell? ⟨bs, b10, none⟩ = some (.int .u8 x10) := (by rw [← HX10.out]; exact (hrow _ on3).2 _ nb10)
      have ca11 : w3.cell? ⟨bs, b11, none⟩ = some (.int .u8 x11) := (by rw [← HX11.out]; exact (hrow _ on3).2 _ nb11)
      have ca12 : w3.cell? ⟨bs, b12, none⟩ = some (.int .u8 x12) := (by rw [← HX12.out]; exact (hrow _ on3).2 _ nb12)
      simp only [Act.put]
      clear hy12 hy13 hy14 hy15 hy16 my13 my16
      go_wp2_with fail
      go_still_tail 30, (by kernel_rfl)
      refine wpList_storeI szU0 (.tmp 110) (.tmp 108) bd p3 .u32 y23 k3.drew np3 rfl rfl rfl rfl ?_
      intro w4 o4 k4
      have on4 := on3.drew.trans o4
      clear ca0 ca1 ca2 ca3 ca4 ca5 ca6 ca7 ca8 ca9 ca10 ca11 ca12
      have ca0 : w4.cell? ⟨bs, b0, none⟩ = some (.int .u8 x0) := (by rw [← HX0.out]; exact (hrow _ on4).2 _ nb0)
      have ca1 : w4.cell? ⟨bs, b1, none⟩ = some (.int .u8 x1) := (by rw [← HX1.out]; exact (hrow _ on4).2 _ nb1)
      have ca2 : w4.cell? ⟨bs, b2, none⟩ = some (.int .u8 x2) := (by rw [← HX2.out]; exact (hrow _ on4).2 _ nb2)
      have ca3 : w4.cell? ⟨bs, b3, none⟩ = some (.int .u8 x3) := (by rw [← HX3.out]; exact (hrow _ on4).2 _ nb3)
      have ca4 : w4.cell? ⟨bs, b4, none⟩ = some (.int .u8 x4) := (by rw [← HX4.out]; exact (hrow _ on4).2 _ nb4)
      have ca5 : w4.cell? ⟨bs, b5, none⟩ = some (.int .u8 x5) := (by rw [← HX5.out]; exact (hrow _ on4).2 _ nb5)
      have ca6 : w4.cell? ⟨bs, b6, none⟩ = some (.int .u8 x6) := (by rw [← HX6.out]; exact (hrow _ on4).2 _ nb6)
      have ca7 : w4.cell? ⟨bs, b7, none⟩ = some (.int .u8 x7) := (by rw [← HX7.out]; exact (hrow _ on4).2 _ nb7)
      have ca8 : w4.cell? ⟨bs, b8, none⟩ = some (.int .u8 x8) := (by rw [← HX8.out]; exact (hrow _ on4).2 _ nb8)
      have ca9 : w4.cell? ⟨bs, b9, none⟩ = some (.int .u8 x9) := (by rw [← HX9.out]; exact (hrow _ on4).2 _ nb9)
      have ca10 : w4.cell? ⟨bs, b10, none⟩ = some (.int .u8 x10) := (by rw [← HX10.out]; exact (hrow _ on4).2 _ nb10)
      have ca11 : w4.cell? ⟨bs, b11, none⟩ = some (.int .u8 x11) := (by rw [← HX11.out]; exact (hrow _ on4).2 _ nb11)
      have ca12 : w4.cell? ⟨bs, b12, none⟩ = some (.int .u8 x12) := (by rw [← HX12.out]; exact (hrow _ on4).2 _ nb12)
      simp only [Act.put]
      clear hy17 hy18 hy19 hy20 hy21 hy22 hy23 my18 my20 my23
      go_wp2_with fail
      go_still_tail 30, (by kernel_rfl)
      refine wpList_storeI szU0 (.tmp 140) (.tmp 138) bd p4 .u32 y30 k4.drew np4 rfl rfl rfl rfl ?_
      intro w5 o5 k5
      have on5 := on4.drew.trans o5
      clear ca0 ca1 ca2 ca3 ca4 ca5 ca6 ca7 ca8 ca9 ca10 ca11 ca12
      have ca0 : w5.cell? ⟨bs, b0, none⟩ = some (.int .u8 x0) := (by rw [← HX0.out]; exact (hrow _ on5).2 _ nb0)
      have ca1 : w5.cell? ⟨bs, b1, none⟩ = some (.int .u8 x1) := (by rw [← HX1.out]; exact (hrow _ on5).2 _ nb1)
      have ca2 : w5.cell? ⟨bs, b2, none⟩ = some (.int .u8 x2) := (by rw [← HX2.out]; exact (hrow _ on5).2 _ nb2)
      have ca3 : w5.cell? ⟨bs, b3, none⟩ = some (.int .u8 x3) := (by rw [← HX3.out]; exact (hrow _ on5).2 _ nb3)
      have ca4 : w5.cell? ⟨bs, b4, none⟩ = some (.int .u8 x4) := (by rw [← HX4.out]; exact (hrow _ on5).2 _ nb4)
      have ca5 : w5.cell? ⟨bs, b5, none⟩ = some (.int .u8 x5) := (by rw [← HX5.out]; exact (hrow _ on5).2 _ nb5)
      have ca6 : w5.cell? ⟨bs, b6, none⟩ = some (.int .u8 x6) := (by rw [← HX6.out]; exact (hrow _ on5).2 _ nb6)
      have ca7 : w5.cell? ⟨bs, b7, none⟩ = some (.int .u8 x7) := (by rw [← HX7.out]; exact (hrow _ on5).2 _ nb7)
      have ca8 : w5.cell? ⟨bs, b8, none⟩ = some (.int .u8 x8) := (by rw [← HX8.out]; exact (hrow _ on5).2 _ nb8)
      have ca9 : w5.cell? ⟨bs, b9, none⟩ = some (.int .u8 x9) := (by rw [← HX9.out]; exact (hrow _ on5).2 _ nb9)
      have ca10 : w5.cell? ⟨bs, b10, none⟩ = some (.int .u8 x10) := (by rw [← HX10.out]; exact (hrow _ on5).2 _ nb10)
      have ca11 : w5.cell? ⟨bs, b11, none⟩ = some (.int .u8 x11) := (by rw [← HX11.out]; exact (hrow _ on5).2 _ nb11)
      have ca12 : w5.cell? ⟨bs, b12, none⟩ = some (.int .u8 x12) := (by rw [← HX12.out]; exact (hrow _ on5).2 _ nb12)
      simp only [Act.put]
      clear hy24 hy25 hy26 hy27 hy28 hy29 hy30 my25 my27 my30
      go_wp2_with fail
      go_still_tail 22, (by kernel_rfl)
      refine wpList_storeI szU0 (.tmp 162) (.tmp 160) bd p5 .u32 y35 k5.drew np5 rfl rfl rfl rfl ?_
      intro w6 o6 k6
      have on6 := on5.drew.trans o6
      clear ca0 ca1 ca2 ca3 ca4 ca5 ca6 ca7 ca8 ca9 ca10 ca11 ca12
      have ca0 : w6.cell? ⟨bs, b0, none⟩ = some (.int .u8 x0) := (by rw [← HX0.out]; exact (hrow _ on6).2 _ nb0)
      have ca1 : w6.cell? ⟨bs, b1, none⟩ = some (.int .u8 x1) := (by rw [← HX1.out]; exact (hrow _ on6).2 _ nb1)
      have ca2 : w6.cell? ⟨bs, b2, none⟩ = some (.int .u8 x2) := (by rw [← HX2.out]; exact (hrow _ on6).2 _ nb2)
      have ca3 : w6.cell? ⟨bs, b3, none⟩ = some (.int .u8 x3) := (by rw [← HX3.out]; exact (hrow _ on6).2 _ nb3)
      have ca4 : w6.cell? ⟨bs, b4, none⟩ = some (.int .u8 x4) := (by rw [← HX4.out]; exact (hrow _ on6).2 _ nb4)
      have ca5 : w6.cell? ⟨bs, b5, none⟩ = some (.int .u8 x5) := (by rw [← HX5.out]; exact (hrow _ on6).2 _ nb5)
      have ca6 : w6.cell? ⟨bs, b6, none⟩ = some (.int .u8 x6) := (by rw [← HX6.out]; exact (hrow _ on6).2 _ nb6)
      have ca7 : w6.cell? ⟨bs, b7, none⟩ = some (.int .u8 x7) := (by rw [← HX7.out]; exact (hrow _ on6).2 _ nb7)
      have ca8 : w6.cell? ⟨bs, b8, none⟩ = some (.int .u8 x8) := (by rw [← HX8.out]; exact (hrow _ on6).2 _ nb8)
      have ca9 : w6.cell? ⟨bs, b9, none⟩ = some (.int .u8 x9) := (by rw [← HX9.out]; exact (hrow _ on6).2 _ nb9)
      have ca10 : w6.cell? ⟨bs, b10, none⟩ = some (.int .u8 x10) := (by rw [← HX10.out]; exact (hrow _ on6).2 _ nb10)
      have ca11 : w6.cell? ⟨bs, b11, none⟩ = some (.int .u8 x11) := (by rw [← HX11.out]; exact (hrow _ on6).2 _ nb11)
      have ca12 : w6.cell? ⟨bs, b12, none⟩ = some (.int .u8 x12) := (by rw [← HX12.out]; exact (hrow _ on6).2 _ nb12)
      simp only [Act.put]
      clear hy31 hy32 hy33 hy34 hy35 my32 my35
      go_wp2_with fail
      go_still_tail 30, (by kernel_rfl)
      refine wpList_storeI szU0 (.tmp 192) (.tmp 190) bd p6 .u32 y42 k6.drew np6 rfl rfl rfl rfl ?_
      intro w7 o7 k7
      have on7 := on6.drew.trans o7
      clear ca0 ca1 ca2 ca3 ca4 ca5 ca6 ca7 ca8 ca9 ca10 ca11 ca12
      have ca0 : w7.cell? ⟨bs, b0, none⟩ = some (.int .u8 x0) := (by rw [← HX0.out]; exact (hrow _ on7).2 _ nb0)
      have ca1 : w7.cell? ⟨bs, b1, none⟩ = some (.int .u8 x1) := (by rw [← HX1.out]; exact (hrow _ on7).2 _ nb1)
      have ca2 : w7.cell? ⟨bs, b2, none⟩ = some (.int .u8 x2) := (by rw [← HX2.out]; exact (hrow _ on7).2 _ nb2)
      have ca3 : w7.cell? ⟨bs, b3, none⟩ = some (.int .u8 x3) := (by rw [← HX3.out]; exact (hrow _ on7).2 _ nb3)
      have ca4 : w7.cell? ⟨bs, b4, none⟩ = some (.int .u8 x4) := (by rw [← HX4.out]; exact (hrow _ on7).2 _ nb4)
      have ca5 : w7.cell? ⟨bs, b5, none⟩ = some (.int .u8 x5) := (by rw [← HX5.out]; exact (hrow _ on7).2 _ nb5)
      have ca6 : w7.cell? ⟨bs, b6, none⟩ = some (.int .u8 x6) := (by rw [← HX6.out]; exact (hrow _ on7).2 _ nb6)
      have ca7 : w7.cell? ⟨bs, b7, none⟩ = some (.int .u8 x7) := (by rw [← HX7.out]; exact (hrow _ on7).2 _ nb7)
      have ca8 : w7.cell? ⟨bs, b8, none⟩ = some (.int .u8 x8) := (by rw [← HX8.out]; exact (hrow _ on7).2 _ nb8)
      have ca9 : w7.cell? ⟨bs, b9, none⟩ = some (.int .u8 x9) := (by rw [← HX9.out]; exact (hrow _ on7).2 _ nb9)
      have ca10 : w7.cell? ⟨bs, b10, none⟩ = some (.int .u8 x10) := (by rw [← HX10.out]; exact (hrow _ on7).2 _ nb10)
      have ca11 : w7.cell? ⟨bs, b11, none⟩ = some (.int .u8 x11) := (by rw [← HX11.out]; exact (hrow _ on7).2 _ nb11)
      have ca12 : w7.cell? ⟨bs, b12, none⟩ = some (.int .u8 x12) := (by rw [← HX12.out]; exact (hrow _ on7).2 _ nb12)
      simp only [Act.put]
      clear hy36 hy37 hy38 hy39 hy40 hy41 hy42 my37 my39 my42
      go_wp2_with fail
      go_still_tail 21, (by kernel_rfl)
      refine wpList_storeI szU0 (.tmp 213) (.tmp 211) bd p7 .u32 y46 k7.drew np7 rfl rfl rfl rfl ?_
      intro w8 o8 k8
      have on8 := on7.drew.trans o8
      clear ca0 ca1 ca2 ca3 ca4 ca5 ca6 ca7 ca8 ca9 ca10 ca11 ca12
      have ca0 : w8.cell? ⟨bs, b0, none⟩ = some (.int .u8 x0) := (by rw [← HX0.out]; exact (hrow _ on8).2 _ nb0)
      have ca1 : w8.cell? ⟨bs, b1, none⟩ = some (.int .u8 x1) := (by rw [← HX1.out]; exact (hrow _ on8).2 _ nb1)
      have ca2 : w8.cell? ⟨bs, b2, none⟩ = some (.int .u8 x2) := (by rw [← HX2.out]; exact (hrow _ on8).2 _ nb2)
      have ca3 : w8.cell? ⟨bs, b3, none⟩ = some (.int .u8 x3) := (by rw [← HX3.out]; exact (hrow _ on8).2 _ nb3)
      have ca4 : w8.cell? ⟨bs, b4, none⟩ = some (.int .u8 x4) := (by rw [← HX4.out]; exact (hrow _ on8).2 _ nb4)
      have ca5 : w8.cell? ⟨bs, b5, none⟩ = some (.int .u8 x5) := (by rw [← HX5.out]; exact (hrow _ on8).2 _ nb5)
      have ca6 : w8.cell? ⟨bs, b6, none⟩ = some (.int .u8 x6) := (by rw [← HX6.out]; exact (hrow _ on8).2 _ nb6)
      have ca7 : w8.cell? ⟨bs, b7, none⟩ = some (.int .u8 x7) := (by rw [← HX7.out]; exact (hrow _ on8).2 _ nb7)
      have ca8 : w8.cell? ⟨bs, b8, none⟩ = some (.int .u8 x8) := (by rw [← HX8.out]; exact (hrow _ on8).2 _ nb8)
      have ca9 : w8.cell? ⟨bs, b9, none⟩ = some (.int .u8 x9) := (by rw [← HX9.out]; exact (hrow _ on8).2 _ nb9)
      have ca10 : w8.cell? ⟨bs, b10, none⟩ = some (.int .u8 x10) := (by rw [← HX10.out]; exact (hrow _ on8).2 _ nb10)
      have ca11 : w8.cell? ⟨bs, b11, none⟩ = some (.int .u8 x11) := (by rw [← HX11.out]; exact (hrow _ on8).2 _ nb11)
      have ca12 : w8.cell? ⟨bs, b12, none⟩ = some (.int .u8 x12) := (by rw [← HX12.out]; exact (hrow _ on8).2 _ nb12)
      simp only [Act.put]
      clear hy43 hy44 hy45 hy46 my44 my46
      go_wp2_with fail
      go_roundw
      case rel =>
        have ep0 := Ep0.out
        have ep1 := Ep1.out
        have ep2 := Ep2.out
        have ep3 := Ep3.out
        have ep4 := Ep4.out
        have ep5 := Ep5.out
        have ep6 := Ep6.out
        have ep7 := Ep7.out
        have eb0 := Eb0.out
        have eb1 := Eb1.out
        have eb2 := Eb2.out
        have eb3 := Eb3.out
        have eb4 := Eb4.out
        have eb5 := Eb5.out
        have eb6 := Eb6.out
        have eb7 := Eb7.out
        have eb8 := Eb8.out
        have eb9 := Eb9.out
        have eb10 := Eb10.out
        have eb11 := Eb11.out
        have eb12 := Eb12.out
        refine ⟨r + 1, by omega, by go_num, by go_num, on8, ?_⟩
        refine k8.congr fun x hx => ?_
        unfold upto ints
        by_cases c7 : x = p7
        · rw [if_pos c7, if_pos (by omega), c7, HG7.out, FIN7.out]
        rw [if_neg c7]
        by_cases c6 : x = p6
        · rw [if_pos c6, if_pos (by omega), c6, HG6.out, FIN6.out]
        rw [if_neg c6]
        by_cases c5 : x = p5
        · rw [if_pos c5, if_pos (by omega), c5, HG5.out, FIN5.out]
        rw [if_neg c5]
        by_cases c4 : x = p4
        · rw [if_pos c4, if_pos (by omega), c4, HG4.out, FIN4.out]
        rw [if_neg c4]
        by_cases c3 : x = p3
        · rw [if_pos c3, if_pos (by omega), c3, HG3.out, FIN3.out]
        rw [if_neg c3]
        by_cases c2 : x = p2
        · rw [if_pos c2, if_pos (by omega), c2, HG2.out, FIN2.out]
        rw [if_neg c2]
        by_cases c1 : x = p1
        · rw [if_pos c1, if_pos (by omega), c1, HG1.out, FIN1.out]
        rw [if_neg c1]
        by_cases c0 : x = p0
        · rw [if_pos c0, if_pos (by omega), c0, HG0.out, FIN0.out]
        rw [if_neg c0]
        by_cases hlt : x < 8 * r
        · rw [if_pos hlt, if_pos (by omega)]
        · rw [if_neg hlt, if_neg (by omega)]
      case measure => simp [intOf]; omega
    · have hr' : r = 32 := by omega
      subst hr'
      go_wp2_with fail
      go_end0
      exact ⟨rfl, hon, by rw [show 8 * 32 = 256 by omega, upto_all] at hbk; exact hbk⟩
end Go.Proofs.Ytgkombmhadgioaa
