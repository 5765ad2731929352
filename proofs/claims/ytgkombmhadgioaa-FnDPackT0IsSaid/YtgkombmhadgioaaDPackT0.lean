/- PackT0 (Dilithium). -/
import Derived.Test.YtgkombmhadgioaaDTab
import Derived.Test.YtgkombmhadgioaaEnc
import Derived.Test.YtgkombmhadgioaaStore
import Derived.Lib.Hide
namespace Go.Proofs.Ytgkombmhadgioaa
open Go Go.Proofs Go.RowKit Go.Kd
set_option linter.unusedSimpArgs false
set_option linter.unusedVariables false
theorem szB : (Try.prog.info? 5).map (·.size) = some 1 := by kernel_rfl
theorem szU : (Try.prog.info? 23).map (·.size) = some 1 := by kernel_rfl
theorem packT0_any_ar0 (y1 g : Int) (h_y1 : 0 ≤ y1 ∧ y1 ≤ 8191) (hg : g = y1 % 256) : ∃ y9 : Int, IntKind.u8.wrap y1 = y9 ∧ (y1) % 256 = y9 ∧ y9 = g := by
  obtain ⟨y9, hy9⟩ : ∃ y, IntKind.u8.wrap y1 = y := ⟨_, rfl⟩
  have my9 : y9 = (y1) % 256 := by rw [← hy9, IntKind.wrap_u8]
  exact ⟨y9, hy9, my9.symm, by rw [hg]; omega⟩
theorem packT0_any_ar1 (y1 y2 g : Int) (h_y1 : 0 ≤ y1 ∧ y1 ≤ 8191) (h_y2 : 0 ≤ y2 ∧ y2 ≤ 8191) (hg : g = y1 / 256 + y2 % 8 * 32) : ∃ y10 y11 y12 y13 y14 : Int, y1 / 256 = y10 ∧ IntKind.u8.wrap y10 = y11 ∧ IntKind.u32.wrap (y2 * 32) = y12 ∧ IntKind.u8.wrap y12 = y13 ∧ bits .or .u8 y11 y13 = y14 ∧ (y10) % 256 = y11 ∧ (y2 * 32) % 4294967296 = y12 ∧ (y12) % 256 = y13 ∧ y14 = g := by
  obtain ⟨y10, hy10⟩ : ∃ y, y1 / 256 = y := ⟨_, rfl⟩
  have my10 : y10 = y1 / 256 := hy10.symm
  obtain ⟨y11, hy11⟩ : ∃ y, IntKind.u8.wrap y10 = y := ⟨_, rfl⟩
  have my11 : y11 = (y10) % 256 := by rw [← hy11, IntKind.wrap_u8]
  obtain ⟨y12, hy12⟩ : ∃ y, IntKind.u32.wrap (y2 * 32) = y := ⟨_, rfl⟩
  have my12 : y12 = (y2 * 32) % 4294967296 := by rw [← hy12, IntKind.wrap_u32]
  obtain ⟨y13, hy13⟩ : ∃ y, IntKind.u8.wrap y12 = y := ⟨_, rfl⟩
  have my13 : y13 = (y12) % 256 := by rw [← hy13, IntKind.wrap_u8]
  obtain ⟨y14, hy14⟩ : ∃ y, bits .or .u8 y11 y13 = y := ⟨_, rfl⟩
  have my14 : y14 = y11 + y13 := by rw [← hy14]; exact or_u8 y11 y13 5 (y13 / 32) (by omega) (by omega) (by omega) (by omega) (by omega)
  exact ⟨y10, y11, y12, y13, y14, hy10, hy11, hy12, hy13, hy14, my11.symm, my12.symm, my13.symm, by rw [hg]; omega⟩
theorem packT0_any_ar2 (y2 g : Int) (h_y2 : 0 ≤ y2 ∧ y2 ≤ 8191) (hg : g = y2 / 8 % 256) : ∃ y15 y16 : Int, y2 / 8 = y15 ∧ IntKind.u8.wrap y15 = y16 ∧ (y15) % 256 = y16 ∧ y16 = g := by
  obtain ⟨y15, hy15⟩ : ∃ y, y2 / 8 = y := ⟨_, rfl⟩
  have my15 : y15 = y2 / 8 := hy15.symm
  obtain ⟨y16, hy16⟩ : ∃ y, IntKind.u8.wrap y15 = y := ⟨_, rfl⟩
  have my16 : y16 = (y15) % 256 := by rw [← hy16, IntKind.wrap_u8]
  exact ⟨y15, y16, hy15, hy16, my16.symm, by rw [hg]; omega⟩
theorem packT0_any_ar3 (y2 y3 g : Int) (h_y2 : 0 ≤ y2 ∧ y2 ≤ 8191) (h_y3 : 0 ≤ y3 ∧ y3 ≤ 8191) (hg : g = y2 / 2048 + y3 % 64 * 4) : ∃ y17 y18 y19 y20 y21 : Int, y2 / 2048 = y17 ∧ IntKind.u8.wrap y17 = y18 ∧ IntKind.u32.wrap (y3 * 4) = y19 ∧ IntKind.u8.wrap y19 = y20 ∧ bits .or .u8 y18 y20 = y21 ∧ (y17) % 256 = y18 ∧ (y3 * 4) % 4294967296 = y19 ∧ (y19) % 256 = y20 ∧ y21 = g := by
  obtain ⟨y17, hy17⟩ : ∃ y, y2 / 2048 = y := ⟨_, rfl⟩
  have my17 : y17 = y2 / 2048 := hy17.symm
  obtain ⟨y18, hy18⟩ : ∃ y, IntKind.u8.wrap y17 = y := ⟨_, rfl⟩
  have my18 : y18 = (y17) % 256 := by rw [← hy18, IntKind.wrap_u8]
  obtain ⟨y19, hy19⟩ : ∃ y, IntKind.u32.wrap (y3 * 4) = y := ⟨_, rfl⟩
  have my19 : y19 = (y3 * 4) % 4294967296 := by rw [← hy19, IntKind.wrap_u32]
  obtain ⟨y20, hy20⟩ : ∃ y, IntKind.u8.wrap y19 = y := ⟨_, rfl⟩
  have my20 : y20 = (y19) % 256 := by rw [← hy20, IntKind.wrap_u8]
  obtain ⟨y21, hy21⟩ : ∃ y, bits .or .u8 y18 y20 = y := ⟨_, rfl⟩
  have my21 : y21 = y18 + y20 := by rw [← hy21]; exact or_u8 y18 y20 2 (y20 / 4) (by omega) (by omega) (by omega) (by omega) (by omega)
  exact ⟨y17, y18, y19, y20, y21, hy17, hy18, hy19, hy20, hy21, my18.symm, my19.symm, my20.symm, by rw [hg]; omega⟩
theorem packT0_any_ar4 (y3 y4 g : Int) (h_y3 : 0 ≤ y3 ∧ y3 ≤ 8191) (h_y4 : 0 ≤ y4 ∧ y4 ≤ 8191) (hg : g = y3 / 64 + y4 % 2 * 128) : ∃ y22 y23 y24 y25 y26 : Int, y3 / 64 = y22 ∧ IntKind.u8.wrap y22 = y23 ∧ IntKind.u32.wrap (y4 * 128) = y24 ∧ IntKind.u8.wrap y24 = y25 ∧ bits .or .u8 y23 y25 = y26 ∧ (y22) % 256 = y23 ∧ (y4 * 128) % 4294967296 = y24 ∧ (y24) % 256 = y25 ∧ y26 = g := by
  obtain ⟨y22, hy22⟩ : ∃ y, y3 / 64 = y := ⟨_, rfl⟩
  have my22 : y22 = y3 / 64 := hy22.symm
  obtain ⟨y23, hy23⟩ : ∃ y, IntKind.u8.wrap y22 = y := ⟨_, rfl⟩
  have my23 : y23 = (y22) % 256 := by rw [← hy23, IntKind.wrap_u8]
  obtain ⟨y24, hy24⟩ : ∃ y, IntKind.u32.wrap (y4 * 128) = y := ⟨_, rfl⟩
  have my24 : y24 = (y4 * 128) % 4294967296 := by rw [← hy24, IntKind.wrap_u32]
  obtain ⟨y25, hy25⟩ : ∃ y, IntKind.u8.wrap y24 = y := ⟨_, rfl⟩
  have my25 : y25 = (y24) % 256 := by rw [← hy25, IntKind.wrap_u8]
  obtain ⟨y26, hy26⟩ : ∃ y, bits .or .u8 y23 y25 = y := ⟨_, rfl⟩
  have my26 : y26 = y23 + y25 := by rw [← hy26]; exact or_u8 y23 y25 7 (y25 / 128) (by omega) (by omega) (by omega) (by omega) (by omega)
  exact ⟨y22, y23, y24, y25, y26, hy22, hy23, hy24, hy25, hy26, my23.symm, my24.symm, my25.symm, by rw [hg]; omega⟩
theorem packT0_any_ar5 (y4 g : Int) (h_y4 : 0 ≤ y4 ∧ y4 ≤ 8191) (hg : g = y4 / 2 % 256) : ∃ y27 y28 : Int, y4 / 2 = y27 ∧ IntKind.u8.wrap y27 = y28 ∧ (y27) % 256 = y28 ∧ y28 = g := by
  obtain ⟨y27, hy27⟩ : ∃ y, y4 / 2 = y := ⟨_, rfl⟩
  have my27 : y27 = y4 / 2 := hy27.symm
  obtain ⟨y28, hy28⟩ : ∃ y, IntKind.u8.wrap y27 = y := ⟨_, rfl⟩
  have my28 : y28 = (y27) % 256 := by rw [← hy28, IntKind.wrap_u8]
  exact ⟨y27, y28, hy27, hy28, my28.symm, by rw [hg]; omega⟩
theorem packT0_any_ar6 (y4 y5 g : Int) (h_y4 : 0 ≤ y4 ∧ y4 ≤ 8191) (h_y5 : 0 ≤ y5 ∧ y5 ≤ 8191) (hg : g = y4 / 512 + y5 % 16 * 16) : ∃ y29 y30 y31 y32 y33 : Int, y4 / 512 = y29 ∧ IntKind.u8.wrap y29 = y30 ∧ IntKind.u32.wrap (y5 * 16) = y31 ∧ IntKind.u8.wrap y31 = y32 ∧ bits .or .u8 y30 y32 = y33 ∧ (y29) % 256 = y30 ∧ (y5 * 16) % 4294967296 = y31 ∧ (y31) % 256 = y32 ∧ y33 = g := by
  obtain ⟨y29, hy29⟩ : ∃ y, y4 / 512 = y := ⟨_, rfl⟩
  have my29 : y29 = y4 / 512 := hy29.symm
  obtain ⟨y30, hy30⟩ : ∃ y, IntKind.u8.wrap y29 = y := ⟨_, rfl⟩
  have my30 : y30 = (y29) % 256 := by rw [← hy30, IntKind.wrap_u8]
  obtain ⟨y31, hy31⟩ : ∃ y, IntKind.u32.wrap (y5 * 16) = y := ⟨_, rfl⟩
  have my31 : y31 = (y5 * 16) % 4294967296 := by rw [← hy31, IntKind.wrap_u32]
  obtain ⟨y32, hy32⟩ : ∃ y, IntKind.u8.wrap y31 = y := ⟨_, rfl⟩
  have my32 : y32 = (y31) % 256 := by rw [← hy32, IntKind.wrap_u8]
  obtain ⟨y33, hy33⟩ : ∃ y, bits .or .u8 y30 y32 = y := ⟨_, rfl⟩
  have my33 : y33 = y30 + y32 := by rw [← hy33]; exact or_u8 y30 y32 4 (y32 / 16) (by omega) (by omega) (by omega) (by omega) (by omega)
  exact ⟨y29, y30, y31, y32, y33, hy29, hy30, hy31, hy32, hy33, my30.symm, my31.symm, my32.symm, by rw [hg]; omega⟩
theorem packT0_any_ar7 (y5 g : Int) (h_y5 : 0 ≤ y5 ∧ y5 ≤ 8191) (hg : g = y5 / 16 % 256) : ∃ y34 y35 : Int, y5 / 16 = y34 ∧ IntKind.u8.wrap y34 = y35 ∧ (y34) % 256 = y35 ∧ y35 = g := by
  obtain ⟨y34, hy34⟩ : ∃ y, y5 / 16 = y := ⟨_, rfl⟩
  have my34 : y34 = y5 / 16 := hy34.symm
  obtain ⟨y35, hy35⟩ : ∃ y, IntKind.u8.wrap y34 = y := ⟨_, rfl⟩
  have my35 : y35 = (y34) % 256 := by rw [← hy35, IntKind.wrap_u8]
  exact ⟨y34, y35, hy34, hy35, my35.symm, by rw [hg]; omega⟩
theorem packT0_any_ar8 (y5 y6 g : Int) (h_y5 : 0 ≤ y5 ∧ y5 ≤ 8191) (h_y6 : 0 ≤ y6 ∧ y6 ≤ 8191) (hg : g = y5 / 4096 + y6 % 128 * 2) : ∃ y36 y37 y38 y39 y40 : Int, y5 / 4096 = y36 ∧ IntKind.u8.wrap y36 = y37 ∧ IntKind.u32.wrap (y6 * 2) = y38 ∧ IntKind.u8.wrap y38 = y39 ∧ bits .or .u8 y37 y39 = y40 ∧ (y36) % 256 = y37 ∧ (y6 * 2) % 4294967296 = y38 ∧ (y38) % 256 = y39 ∧ y40 = g := by
  obtain ⟨y36, hy36⟩ : ∃ y, y5 / 4096 = y := ⟨_, rfl⟩
  have my36 : y36 = y5 / 4096 := hy36.symm
  obtain ⟨y37, hy37⟩ : ∃ y, IntKind.u8.wrap y36 = y := ⟨_, rfl⟩
  have my37 : y37 = (y36) % 256 := by rw [← hy37, IntKind.wrap_u8]
  obtain ⟨y38, hy38⟩ : ∃ y, IntKind.u32.wrap (y6 * 2) = y := ⟨_, rfl⟩
  have my38 : y38 = (y6 * 2) % 4294967296 := by rw [← hy38, IntKind.wrap_u32]
  obtain ⟨y39, hy39⟩ : ∃ y, IntKind.u8.wrap y38 = y := ⟨_, rfl⟩
  have my39 : y39 = (y38) % 256 := by rw [← hy39, IntKind.wrap_u8]
  obtain ⟨y40, hy40⟩ : ∃ y, bits .or .u8 y37 y39 = y := ⟨_, rfl⟩
  have my40 : y40 = y37 + y39 := by rw [← hy40]; exact or_u8 y37 y39 1 (y39 / 2) (by omega) (by omega) (by omega) (by omega) (by omega)
  exact ⟨y36, y37, y38, y39, y40, hy36, hy37, hy38, hy39, hy40, my37.symm, my38.symm, my39.symm, by rw [hg]; omega⟩
theorem packT0_any_ar9 (y6 y7 g : Int) (h_y6 : 0 ≤ y6 ∧ y6 ≤ 8191) (h_y7 : 0 ≤ y7 ∧ y7 ≤ 8191) (hg : g = y6 / 128 + y7 % 4 * 64) : ∃ y41 y42 y43 y44 y45 : Int, y6 / 128 = y41 ∧ IntKind.u8.wrap y41 = y42 ∧ IntKind.u32.wrap (y7 * 64) = y43 ∧ IntKind.u8.wrap y43 = y44 ∧ bits .or .u8 y42 y44 = y45 ∧ (y41) % 256 = y42 ∧ (y7 * 64) % 4294967296 = y43 ∧ (y43) % 256 = y44 ∧ y45 = g := by
  obtain ⟨y41, hy41⟩ : ∃ y, y6 / 128 = y := ⟨_, rfl⟩
  have my41 : y41 = y6 / 128 := hy41.symm
  obtain ⟨y42, hy42⟩ : ∃ y, IntKind.u8.wrap y41 = y := ⟨_, rfl⟩
  have my42 : y42 = (y41) % 256 := by rw [← hy42, IntKind.wrap_u8]
  obtain ⟨y43, hy43⟩ : ∃ y, IntKind.u32.wrap (y7 * 64) = y := ⟨_, rfl⟩
  have my43 : y43 = (y7 * 64) % 4294967296 := by rw [← hy43, IntKind.wrap_u32]
  obtain ⟨y44, hy44⟩ : ∃ y, IntKind.u8.wrap y43 = y := ⟨_, rfl⟩
  have my44 : y44 = (y43) % 256 := by rw [← hy44, IntKind.wrap_u8]
  obtain ⟨y45, hy45⟩ : ∃ y, bits .or .u8 y42 y44 = y := ⟨_, rfl⟩
  have my45 : y45 = y42 + y44 := by rw [← hy45]; exact or_u8 y42 y44 6 (y44 / 64) (by omega) (by omega) (by omega) (by omega) (by omega)
  exact ⟨y41, y42, y43, y44, y45, hy41, hy42, hy43, hy44, hy45, my42.symm, my43.symm, my44.symm, by rw [hg]; omega⟩
theorem packT0_any_ar10 (y7 g : Int) (h_y7 : 0 ≤ y7 ∧ y7 ≤ 8191) (hg : g = y7 / 4 % 256) : ∃ y46 y47 : Int, y7 / 4 = y46 ∧ IntKind.u8.wrap y46 = y47 ∧ (y46) % 256 = y47 ∧ y47 = g := by
  obtain ⟨y46, hy46⟩ : ∃ y, y7 / 4 = y := ⟨_, rfl⟩
  have my46 : y46 = y7 / 4 := hy46.symm
  obtain ⟨y47, hy47⟩ : ∃ y, IntKind.u8.wrap y46 = y := ⟨_, rfl⟩
  have my47 : y47 = (y46) % 256 := by rw [← hy47, IntKind.wrap_u8]
  exact ⟨y46, y47, hy46, hy47, my47.symm, by rw [hg]; omega⟩
theorem packT0_any_ar11 (y7 y8 g : Int) (h_y7 : 0 ≤ y7 ∧ y7 ≤ 8191) (h_y8 : 0 ≤ y8 ∧ y8 ≤ 8191) (hg : g = y7 / 1024 + y8 % 32 * 8) : ∃ y48 y49 y50 y51 y52 : Int, y7 / 1024 = y48 ∧ IntKind.u8.wrap y48 = y49 ∧ IntKind.u32.wrap (y8 * 8) = y50 ∧ IntKind.u8.wrap y50 = y51 ∧ bits .or .u8 y49 y51 = y52 ∧ (y48) % 256 = y49 ∧ (y8 * 8) % 4294967296 = y50 ∧ (y50) % 256 = y51 ∧ y52 = g := by
  obtain ⟨y48, hy48⟩ : ∃ y, y7 / 1024 = y := ⟨_, rfl⟩
  have my48 : y48 = y7 / 1024 := hy48.symm
  obtain ⟨y49, hy49⟩ : ∃ y, IntKind.u8.wrap y48 = y := ⟨_, rfl⟩
  have my49 : y49 = (y48) % 256 := by rw [← hy49, IntKind.wrap_u8]
  obtain ⟨y50, hy50⟩ : ∃ y, IntKind.u32.wrap (y8 * 8) = y := ⟨_, rfl⟩
  have my50 : y50 = (y8 * 8) % 4294967296 := by rw [← hy50, IntKind.wrap_u32]
  obtain ⟨y51, hy51⟩ : ∃ y, IntKind.u8.wrap y50 = y := ⟨_, rfl⟩
  have my51 : y51 = (y50) % 256 := by rw [← hy51, IntKind.wrap_u8]
  obtain ⟨y52, hy52⟩ : ∃ y, bits .or .u8 y49 y51 = y := ⟨_, rfl⟩
  have my52 : y52 = y49 + y51 := by rw [← hy52]; exact or_u8 y49 y51 3 (y51 / 8) (by omega) (by omega) (by omega) (by omega) (by omega)
  exact ⟨y48, y49, y50, y51, y52, hy48, hy49, hy50, hy51, hy52, my49.symm, my50.symm, my51.symm, by rw [hg]; omega⟩
theorem packT0_any_ar12 (y8 g : Int) (h_y8 : 0 ≤ y8 ∧ y8 ≤ 8191) (hg : g = y8 / 32) : ∃ y53 y54 : Int, y8 / 32 = y53 ∧ IntKind.u8.wrap y53 = y54 ∧ (y53) % 256 = y54 ∧ y54 = g := by
  obtain ⟨y53, hy53⟩ : ∃ y, y8 / 32 = y := ⟨_, rfl⟩
  have my53 : y53 = y8 / 32 := hy53.symm
  obtain ⟨y54, hy54⟩ : ∃ y, IntKind.u8.wrap y53 = y := ⟨_, rfl⟩
  have my54 : y54 = (y53) % 256 := by rw [← hy54, IntKind.wrap_u8]
  exact ⟨y53, y54, hy53, hy54, my54.symm, by rw [hg]; omega⟩
set_option maxRecDepth 100000 in
set_option maxHeartbeats 2000000 in
theorem packT0_any (bs bd : Nat) (w : World) (Td : TypeId) (f G Z : Nat → Int) (hs : RowK w bs 256 .u32 f) (hd : Blk w bd Td (cellsF 416 (ints .u8 Z))) (hne : bs ≠ bd) (hf : ∀ i, i < 256 → 8376322 ≤ f i ∧ f i ≤ 8384513)
    (hG0 : ∀ r, r < 32 → G (13 * r + 0) = (8384513 - f (8 * r + 0)) % 256) (hG1 : ∀ r, r < 32 → G (13 * r + 1) = (8384513 - f (8 * r + 0)) / 256 + (8384513 - f (8 * r + 1)) % 8 * 32) (hG2 : ∀ r, r < 32 → G (13 * r + 2) = (8384513 - f (8 * r + 1)) / 8 % 256) (hG3 : ∀ r, r < 32 → G (13 * r + 3) = (8384513 - f (8 * r + 1)) / 2048 + (8384513 - f (8 * r + 2)) % 64 * 4) (hG4 : ∀ r, r < 32 → G (13 * r + 4) = (8384513 - f (8 * r + 2)) / 64 + (8384513 - f (8 * r + 3)) % 2 * 128) (hG5 : ∀ r, r < 32 → G (13 * r + 5) = (8384513 - f (8 * r + 3)) / 2 % 256) (hG6 : ∀ r, r < 32 → G (13 * r + 6) = (8384513 - f (8 * r + 3)) / 512 + (8384513 - f (8 * r + 4)) % 16 * 16) (hG7 : ∀ r, r < 32 → G (13 * r + 7) = (8384513 - f (8 * r + 4)) / 16 % 256) (hG8 : ∀ r, r < 32 → G (13 * r + 8) = (8384513 - f (8 * r + 4)) / 4096 + (8384513 - f (8 * r + 5)) % 128 * 2) (hG9 : ∀ r, r < 32 → G (13 * r + 9) = (8384513 - f (8 * r + 5)) / 128 + (8384513 - f (8 * r + 6)) % 4 * 64) (hG10 : ∀ r, r < 32 → G (13 * r + 10) = (8384513 - f (8 * r + 6)) / 4 % 256) (hG11 : ∀ r, r < 32 → G (13 * r + 11) = (8384513 - f (8 * r + 6)) / 1024 + (8384513 - f (8 * r + 7)) % 32 * 8) (hG12 : ∀ r, r < 32 → G (13 * r + 12) = (8384513 - f (8 * r + 7)) / 32) :
    Calls Try.prog 62 #[.pointer (some ⟨bs, 0, none⟩), .slice (some ⟨bd, 0, none⟩) 416 416] w fun e w' => e = .returned (.tuple #[]) ∧ Only bd w w' ∧ Blk w' bd Td (cellsF 416 (ints .u8 G)) := by
  go_enter Try.func62, Try.ntmps62
  go_wp2_with fail
  go_loopw [4, 5] (fun x y wr => ∃ r : Nat, r ≤ 32 ∧ x = .int .i64 (8 * r : Nat) ∧ y = .int .i64 (13 * r : Nat) ∧ Only bd w wr ∧ Blk wr bd Td (cellsF 416 (upto (13 * r) (ints .u8 G) (ints .u8 Z)))) (fun _ y _ => 416 - (intOf y).toNat)
  case atStart => exact ⟨0, by omega, rfl, rfl, Only.refl _ _, by rw [upto_zero]; exact hd⟩
  case round =>
    obtain ⟨r, hr, rfl, rfl, hon, hbk⟩ := hrel
    by_cases hl : r < 32
    · have hrow : ∀ w1, Only bd w w1 → RowK w1 bs 256 .u32 f := fun w1 h => hs.only hne h
      obtain ⟨p0, ep0⟩ : ∃ p : Nat, p = 8 * r + 0 := ⟨_, rfl⟩
      obtain ⟨p1, ep1⟩ : ∃ p : Nat, p = 8 * r + 1 := ⟨_, rfl⟩
      obtain ⟨p2, ep2⟩ : ∃ p : Nat, p = 8 * r + 2 := ⟨_, rfl⟩
      obtain ⟨p3, ep3⟩ : ∃ p : Nat, p = 8 * r + 3 := ⟨_, rfl⟩
      obtain ⟨p4, ep4⟩ : ∃ p : Nat, p = 8 * r + 4 := ⟨_, rfl⟩
      obtain ⟨p5, ep5⟩ : ∃ p : Nat, p = 8 * r + 5 := ⟨_, rfl⟩
      obtain ⟨p6, ep6⟩ : ∃ p : Nat, p = 8 * r + 6 := ⟨_, rfl⟩
      obtain ⟨p7, ep7⟩ : ∃ p : Nat, p = 8 * r + 7 := ⟨_, rfl⟩
      obtain ⟨b0, eb0⟩ : ∃ p : Nat, p = 13 * r + 0 := ⟨_, rfl⟩
      obtain ⟨b1, eb1⟩ : ∃ p : Nat, p = 13 * r + 1 := ⟨_, rfl⟩
      obtain ⟨b2, eb2⟩ : ∃ p : Nat, p = 13 * r + 2 := ⟨_, rfl⟩
      obtain ⟨b3, eb3⟩ : ∃ p : Nat, p = 13 * r + 3 := ⟨_, rfl⟩
      obtain ⟨b4, eb4⟩ : ∃ p : Nat, p = 13 * r + 4 := ⟨_, rfl⟩
      obtain ⟨b5, eb5⟩ : ∃ p : Nat, p = 13 * r + 5 := ⟨_, rfl⟩
      obtain ⟨b6, eb6⟩ : ∃ p : Nat, p = 13 * r + 6 := ⟨_, rfl⟩
      obtain ⟨b7, eb7⟩ : ∃ p : Nat, p = 13 * r + 7 := ⟨_, rfl⟩
      obtain ⟨b8, eb8⟩ : ∃ p : Nat, p = 13 * r + 8 := ⟨_, rfl⟩
      obtain ⟨b9, eb9⟩ : ∃ p : Nat, p = 13 * r + 9 := ⟨_, rfl⟩
      obtain ⟨b10, eb10⟩ : ∃ p : Nat, p = 13 * r + 10 := ⟨_, rfl⟩
      obtain ⟨b11, eb11⟩ : ∃ p : Nat, p = 13 * r + 11 := ⟨_, rfl⟩
      obtain ⟨b12, eb12⟩ : ∃ p : Nat, p = 13 * r + 12 := ⟨_, rfl⟩
      obtain ⟨la0, lb0⟩ := hf p0 (by omega)
      obtain ⟨la1, lb1⟩ := hf p1 (by omega)
      obtain ⟨la2, lb2⟩ := hf p2 (by omega)
      obtain ⟨la3, lb3⟩ := hf p3 (by omega)
      obtain ⟨la4, lb4⟩ := hf p4 (by omega)
      obtain ⟨la5, lb5⟩ := hf p5 (by omega)
      obtain ⟨la6, lb6⟩ := hf p6 (by omega)
      obtain ⟨la7, lb7⟩ := hf p7 (by omega)
      have gg0 : G b0 = (8384513 - f p0) % 256 := by rw [eb0, hG0 r hl]; simp only [ep0, ep1, ep2, ep3, ep4, ep5, ep6, ep7]
      have gg1 : G b1 = (8384513 - f p0) / 256 + (8384513 - f p1) % 8 * 32 := by rw [eb1, hG1 r hl]; simp only [ep0, ep1, ep2, ep3, ep4, ep5, ep6, ep7]
      have gg2 : G b2 = (8384513 - f p1) / 8 % 256 := by rw [eb2, hG2 r hl]; simp only [ep0, ep1, ep2, ep3, ep4, ep5, ep6, ep7]
      have gg3 : G b3 = (8384513 - f p1) / 2048 + (8384513 - f p2) % 64 * 4 := by rw [eb3, hG3 r hl]; simp only [ep0, ep1, ep2, ep3, ep4, ep5, ep6, ep7]
      have gg4 : G b4 = (8384513 - f p2) / 64 + (8384513 - f p3) % 2 * 128 := by rw [eb4, hG4 r hl]; simp only [ep0, ep1, ep2, ep3, ep4, ep5, ep6, ep7]
      have gg5 : G b5 = (8384513 - f p3) / 2 % 256 := by rw [eb5, hG5 r hl]; simp only [ep0, ep1, ep2, ep3, ep4, ep5, ep6, ep7]
      have gg6 : G b6 = (8384513 - f p3) / 512 + (8384513 - f p4) % 16 * 16 := by rw [eb6, hG6 r hl]; simp only [ep0, ep1, ep2, ep3, ep4, ep5, ep6, ep7]
      have gg7 : G b7 = (8384513 - f p4) / 16 % 256 := by rw [eb7, hG7 r hl]; simp only [ep0, ep1, ep2, ep3, ep4, ep5, ep6, ep7]
      have gg8 : G b8 = (8384513 - f p4) / 4096 + (8384513 - f p5) % 128 * 2 := by rw [eb8, hG8 r hl]; simp only [ep0, ep1, ep2, ep3, ep4, ep5, ep6, ep7]
      have gg9 : G b9 = (8384513 - f p5) / 128 + (8384513 - f p6) % 4 * 64 := by rw [eb9, hG9 r hl]; simp only [ep0, ep1, ep2, ep3, ep4, ep5, ep6, ep7]
      have gg10 : G b10 = (8384513 - f p6) / 4 % 256 := by rw [eb10, hG10 r hl]; simp only [ep0, ep1, ep2, ep3, ep4, ep5, ep6, ep7]
      have gg11 : G b11 = (8384513 - f p6) / 1024 + (8384513 - f p7) % 32 * 8 := by rw [eb11, hG11 r hl]; simp only [ep0, ep1, ep2, ep3, ep4, ep5, ep6, ep7]
      have gg12 : G b12 = (8384513 - f p7) / 32 := by rw [eb12, hG12 r hl]; simp only [ep0, ep1, ep2, ep3, ep4, ep5, ep6, ep7]
      generalize hx0 : f p0 = x0 at *
      generalize hx1 : f p1 = x1 at *
      generalize hx2 : f p2 = x2 at *
      generalize hx3 : f p3 = x3 at *
      generalize hx4 : f p4 = x4 at *
      generalize hx5 : f p5 = x5 at *
      generalize hx6 : f p6 = x6 at *
      generalize hx7 : f p7 = x7 at *
      generalize hg0 : G b0 = g0 at *
      generalize hg1 : G b1 = g1 at *
      generalize hg2 : G b2 = g2 at *
      generalize hg3 : G b3 = g3 at *
      generalize hg4 : G b4 = g4 at *
      generalize hg5 : G b5 = g5 at *
      generalize hg6 : G b6 = g6 at *
      generalize hg7 : G b7 = g7 at *
      generalize hg8 : G b8 = g8 at *
      generalize hg9 : G b9 = g9 at *
      generalize hg10 : G b10 = g10 at *
      generalize hg11 : G b11 = g11 at *
      generalize hg12 : G b12 = g12 at *
      have HX0 := Lib.hid hx0; clear hx0
      have HX1 := Lib.hid hx1; clear hx1
      have HX2 := Lib.hid hx2; clear hx2
      have HX3 := Lib.hid hx3; clear hx3
      have HX4 := Lib.hid hx4; clear hx4
      have HX5 := Lib.hid hx5; clear hx5
      have HX6 := Lib.hid hx6; clear hx6
      have HX7 := Lib.hid hx7; clear hx7
      have HG0 := Lib.hid hg0; clear hg0
      have HG1 := Lib.hid hg1; clear hg1
      have HG2 := Lib.hid hg2; clear hg2
      have HG3 := Lib.hid hg3; clear hg3
      have HG4 := Lib.hid hg4; clear hg4
      have HG5 := Lib.hid hg5; clear hg5
      have HG6 := Lib.hid hg6; clear hg6
      have HG7 := Lib.hid hg7; clear hg7
      have HG8 := Lib.hid hg8; clear hg8
      have HG9 := Lib.hid hg9; clear hg9
      have HG10 := Lib.hid hg10; clear hg10
      have HG11 := Lib.hid hg11; clear hg11
      have HG12 := Lib.hid hg12; clear hg12
      obtain ⟨y1, hy1⟩ : ∃ y, 8384513 - x0 = y := ⟨_, rfl⟩
      have by1 : 0 ≤ y1 ∧ y1 ≤ 8191 := by omega
      have wy1 : IntKind.u32.wrap y1 = y1 := by rw [IntKind.wrap_u32]; omega
      obtain ⟨y2, hy2⟩ : ∃ y, 8384513 - x1 = y := ⟨_, rfl⟩
      have by2 : 0 ≤ y2 ∧ y2 ≤ 8191 := by omega
      have wy2 : IntKind.u32.wrap y2 = y2 := by rw [IntKind.wrap_u32]; omega
      obtain ⟨y3, hy3⟩ : ∃ y, 8384513 - x2 = y := ⟨_, rfl⟩
      have by3 : 0 ≤ y3 ∧ y3 ≤ 8191 := by omega
      have wy3 : IntKind.u32.wrap y3 = y3 := by rw [IntKind.wrap_u32]; omega
      obtain ⟨y4, hy4⟩ : ∃ y, 8384513 - x3 = y := ⟨_, rfl⟩
      have by4 : 0 ≤ y4 ∧ y4 ≤ 8191 := by omega
      have wy4 : IntKind.u32.wrap y4 = y4 := by rw [IntKind.wrap_u32]; omega
      obtain ⟨y5, hy5⟩ : ∃ y, 8384513 - x4 = y := ⟨_, rfl⟩
      have by5 : 0 ≤ y5 ∧ y5 ≤ 8191 := by omega
      have wy5 : IntKind.u32.wrap y5 = y5 := by rw [IntKind.wrap_u32]; omega
      obtain ⟨y6, hy6⟩ : ∃ y, 8384513 - x5 = y := ⟨_, rfl⟩
      have by6 : 0 ≤ y6 ∧ y6 ≤ 8191 := by omega
      have wy6 : IntKind.u32.wrap y6 = y6 := by rw [IntKind.wrap_u32]; omega
      obtain ⟨y7, hy7⟩ : ∃ y, 8384513 - x6 = y := ⟨_, rfl⟩
      have by7 : 0 ≤ y7 ∧ y7 ≤ 8191 := by omega
      have wy7 : IntKind.u32.wrap y7 = y7 := by rw [IntKind.wrap_u32]; omega
      obtain ⟨y8, hy8⟩ : ∃ y, 8384513 - x7 = y := ⟨_, rfl⟩
      have by8 : 0 ≤ y8 ∧ y8 ≤ 8191 := by omega
      have wy8 : IntKind.u32.wrap y8 = y8 := by rw [IntKind.wrap_u32]; omega
      obtain ⟨y9, hy9, my9, fin0⟩ := packT0_any_ar0 y1 g0 by1 (by rw [gg0]; simp only [hy1, hy2, hy3, hy4, hy5, hy6, hy7, hy8])
      obtain ⟨y10, y11, y12, y13, y14, hy10, hy11, hy12, hy13, hy14, my11, my12, my13, fin1⟩ := packT0_any_ar1 y1 y2 g1 by1 by2 (by rw [gg1]; simp only [hy1, hy2, hy3, hy4, hy5, hy6, hy7, hy8])
      obtain ⟨y15, y16, hy15, hy16, my16, fin2⟩ := packT0_any_ar2 y2 g2 by2 (by rw [gg2]; simp only [hy1, hy2, hy3, hy4, hy5, hy6, hy7, hy8])
      obtain ⟨y17, y18, y19, y20, y21, hy17, hy18, hy19, hy20, hy21, my18, my19, my20, fin3⟩ := packT0_any_ar3 y2 y3 g3 by2 by3 (by rw [gg3]; simp only [hy1, hy2, hy3, hy4, hy5, hy6, hy7, hy8])
      obtain ⟨y22, y23, y24, y25, y26, hy22, hy23, hy24, hy25, hy26, my23, my24, my25, fin4⟩ := packT0_any_ar4 y3 y4 g4 by3 by4 (by rw [gg4]; simp only [hy1, hy2, hy3, hy4, hy5, hy6, hy7, hy8])
      obtain ⟨y27, y28, hy27, hy28, my28, fin5⟩ := packT0_any_ar5 y4 g5 by4 (by rw [gg5]; simp only [hy1, hy2, hy3, hy4, hy5, hy6, hy7, hy8])
      obtain ⟨y29, y30, y31, y32, y33, hy29, hy30, hy31, hy32, hy33, my30, my31, my32, fin6⟩ := packT0_any_ar6 y4 y5 g6 by4 by5 (by rw [gg6]; simp only [hy1, hy2, hy3, hy4, hy5, hy6, hy7, hy8])
      obtain ⟨y34, y35, hy34, hy35, my35, fin7⟩ := packT0_any_ar7 y5 g7 by5 (by rw [gg7]; simp only [hy1, hy2, hy3, hy4, hy5, hy6, hy7, hy8])
      obtain ⟨y36, y37, y38, y39, y40, hy36, hy37, hy38, hy39, hy40, my37, my38, my39, fin8⟩ := packT0_any_ar8 y5 y6 g8 by5 by6 (by rw [gg8]; simp only [hy1, hy2, hy3, hy4, hy5, hy6, hy7, hy8])
      obtain ⟨y41, y42, y43, y44, y45, hy41, hy42, hy43, hy44, hy45, my42, my43, my44, fin9⟩ := packT0_any_ar9 y6 y7 g9 by6 by7 (by rw [gg9]; simp only [hy1, hy2, hy3, hy4, hy5, hy6, hy7, hy8])
      obtain ⟨y46, y47, hy46, hy47, my47, fin10⟩ := packT0_any_ar10 y7 g10 by7 (by rw [gg10]; simp only [hy1, hy2, hy3, hy4, hy5, hy6, hy7, hy8])
      obtain ⟨y48, y49, y50, y51, y52, hy48, hy49, hy50, hy51, hy52, my49, my50, my51, fin11⟩ := packT0_any_ar11 y7 y8 g11 by7 by8 (by rw [gg11]; simp only [hy1, hy2, hy3, hy4, hy5, hy6, hy7, hy8])
      obtain ⟨y53, y54, hy53, hy54, my54, fin12⟩ := packT0_any_ar12 y8 g12 by8 (by rw [gg12]; simp only [hy1, hy2, hy3, hy4, hy5, hy6, hy7, hy8])
      clear gg0 gg1 gg2 gg3 gg4 gg5 gg6 gg7 gg8 gg9 gg10 gg11 gg12
      have FIN0 := Lib.hid fin0; clear fin0
      have FIN1 := Lib.hid fin1; clear fin1
      have FIN2 := Lib.hid fin2; clear fin2
      have FIN3 := Lib.hid fin3; clear fin3
      have FIN4 := Lib.hid fin4; clear fin4
      have FIN5 := Lib.hid fin5; clear fin5
      have FIN6 := Lib.hid fin6; clear fin6
      have FIN7 := Lib.hid fin7; clear fin7
      have FIN8 := Lib.hid fin8; clear fin8
      have FIN9 := Lib.hid fin9; clear fin9
      have FIN10 := Lib.hid fin10; clear fin10
      have FIN11 := Lib.hid fin11; clear fin11
      have FIN12 := Lib.hid fin12; clear fin12
      have zp0 : 8 * (r : Int) = (p0 : Int) := by omega
      have tp0 : (p0 : Int) < 256 := by omega
      have zp1 : (p0 : Int) + 1 = (p1 : Int) := by omega
      have up1 : IntKind.i64.wrap (p1 : Int) = (p1 : Int) := by rw [IntKind.wrap_i64]; omega
      have tp1 : (p1 : Int) < 256 := by omega
      have zp2 : (p0 : Int) + 2 = (p2 : Int) := by omega
      have up2 : IntKind.i64.wrap (p2 : Int) = (p2 : Int) := by rw [IntKind.wrap_i64]; omega
      have tp2 : (p2 : Int) < 256 := by omega
      have zp3 : (p0 : Int) + 3 = (p3 : Int) := by omega
      have up3 : IntKind.i64.wrap (p3 : Int) = (p3 : Int) := by rw [IntKind.wrap_i64]; omega
      have tp3 : (p3 : Int) < 256 := by omega
      have zp4 : (p0 : Int) + 4 = (p4 : Int) := by omega
      have up4 : IntKind.i64.wrap (p4 : Int) = (p4 : Int) := by rw [IntKind.wrap_i64]; omega
      have tp4 : (p4 : Int) < 256 := by omega
      have zp5 : (p0 : Int) + 5 = (p5 : Int) := by omega
      have up5 : IntKind.i64.wrap (p5 : Int) = (p5 : Int) := by rw [IntKind.wrap_i64]; omega
      have tp5 : (p5 : Int) < 256 := by omega
      have zp6 : (p0 : Int) + 6 = (p6 : Int) := by omega
      have up6 : IntKind.i64.wrap (p6 : Int) = (p6 : Int) := by rw [IntKind.wrap_i64]; omega
      have tp6 : (p6 : Int) < 256 := by omega
      have zp7 : (p0 : Int) + 7 = (p7 : Int) := by omega
      have up7 : IntKind.i64.wrap (p7 : Int) = (p7 : Int) := by rw [IntKind.wrap_i64]; omega
      have tp7 : (p7 : Int) < 256 := by omega
      have zb0 : 13 * (r : Int) = (b0 : Int) := by omega
      have tb0 : (b0 : Int) < 416 := by omega
      have zb1 : (b0 : Int) + 1 = (b1 : Int) := by omega
      have ub1 : IntKind.i64.wrap (b1 : Int) = (b1 : Int) := by rw [IntKind.wrap_i64]; omega
      have tb1 : (b1 : Int) < 416 := by omega
      have zb2 : (b0 : Int) + 2 = (b2 : Int) := by omega
      have ub2 : IntKind.i64.wrap (b2 : Int) = (b2 : Int) := by rw [IntKind.wrap_i64]; omega
      have tb2 : (b2 : Int) < 416 := by omega
      have zb3 : (b0 : Int) + 3 = (b3 : Int) := by omega
      have ub3 : IntKind.i64.wrap (b3 : Int) = (b3 : Int) := by rw [IntKind.wrap_i64]; omega
      have tb3 : (b3 : Int) < 416 := by omega
      have zb4 : (b0 : Int) + 4 = (b4 : Int) := by omega
      have ub4 : IntKind.i64.wrap (b4 : Int) = (b4 : Int) := by rw [IntKind.wrap_i64]; omega
      have tb4 : (b4 : Int) < 416 := by omega
      have zb5 : (b0 : Int) + 5 = (b5 : Int) := by omega
      have ub5 : IntKind.i64.wrap (b5 : Int) = (b5 : Int) := by rw [IntKind.wrap_i64]; omega
      have tb5 : (b5 : Int) < 416 := by omega
      have zb6 : (b0 : Int) + 6 = (b6 : Int) := by omega
      have ub6 : IntKind.i64.wrap (b6 : Int) = (b6 : Int) := by rw [IntKind.wrap_i64]; omega
      have tb6 : (b6 : Int) < 416 := by omega
      have zb7 : (b0 : Int) + 7 = (b7 : Int) := by omega
      have ub7 : IntKind.i64.wrap (b7 : Int) = (b7 : Int) := by rw [IntKind.wrap_i64]; omega
      have tb7 : (b7 : Int) < 416 := by omega
      have zb8 : (b0 : Int) + 8 = (b8 : Int) := by omega
      have ub8 : IntKind.i64.wrap (b8 : Int) = (b8 : Int) := by rw [IntKind.wrap_i64]; omega
      have tb8 : (b8 : Int) < 416 := by omega
      have zb9 : (b0 : Int) + 9 = (b9 : Int) := by omega
      have ub9 : IntKind.i64.wrap (b9 : Int) = (b9 : Int) := by rw [IntKind.wrap_i64]; omega
      have tb9 : (b9 : Int) < 416 := by omega
      have zb10 : (b0 : Int) + 10 = (b10 : Int) := by omega
      have ub10 : IntKind.i64.wrap (b10 : Int) = (b10 : Int) := by rw [IntKind.wrap_i64]; omega
      have tb10 : (b10 : Int) < 416 := by omega
      have zb11 : (b0 : Int) + 11 = (b11 : Int) := by omega
      have ub11 : IntKind.i64.wrap (b11 : Int) = (b11 : Int) := by rw [IntKind.wrap_i64]; omega
      have tb11 : (b11 : Int) < 416 := by omega
      have zb12 : (b0 : Int) + 12 = (b12 : Int) := by omega
      have ub12 : IntKind.i64.wrap (b12 : Int) = (b12 : Int) := by rw [IntKind.wrap_i64]; omega
      have tb12 : (b12 : Int) < 416 := by omega
      have nb0 : b0 < 416 := by omega
      have nb1 : b1 < 416 := by omega
      have nb2 : b2 < 416 := by omega
      have nb3 : b3 < 416 := by omega
      have nb4 : b4 < 416 := by omega
      have nb5 : b5 < 416 := by omega
      have nb6 : b6 < 416 := by omega
      have nb7 : b7 < 416 := by omega
      have nb8 : b8 < 416 := by omega
      have nb9 : b9 < 416 := by omega
      have nb10 : b10 < 416 := by omega
      have nb11 : b11 < 416 := by omega
      have nb12 : b12 < 416 := by omega
      have np0 : p0 < 256 := by omega
      have np1 : p1 < 256 := by omega
      have np2 : p2 < 256 := by omega
      have np3 : p3 < 256 := by omega
      have np4 : p4 < 256 := by omega
      have np5 : p5 < 256 := by omega
      have np6 : p6 < 256 := by omega
      have np7 : p7 < 256 := by omega
      have Ep0 := Lib.hid ep0; clear ep0
      have Ep1 := Lib.hid ep1; clear ep1
      have Ep2 := Lib.hid ep2; clear ep2
      have Ep3 := Lib.hid ep3; clear ep3
      have Ep4 := Lib.hid ep4; clear ep4
      have Ep5 := Lib.hid ep5; clear ep5
      have Ep6 := Lib.hid ep6; clear ep6
      have Ep7 := Lib.hid ep7; clear ep7
      have Eb0 := Lib.hid eb0; clear eb0
      have Eb1 := Lib.hid eb1; clear eb1
      have Eb2 := Lib.hid eb2; clear eb2
      have Eb3 := Lib.hid eb3; clear eb3
      have Eb4 := Lib.hid eb4; clear eb4
      have Eb5 := Lib.hid eb5; clear eb5
      have Eb6 := Lib.hid eb6; clear eb6
      have Eb7 := Lib.hid eb7; clear eb7
      have Eb8 := Lib.hid eb8; clear eb8
      have Eb9 := Lib.hid eb9; clear eb9
      have Eb10 := Lib.hid eb10; clear eb10
      have Eb11 := Lib.hid eb11; clear eb11
      have Eb12 := Lib.hid eb12; clear eb12
      have ca0 : wr.cell? ⟨bs, p0, none⟩ = some (.int .u32 x0) := (by rw [← HX0.out]; exact (hrow _ hon).2 _ np0)
      have ca1 : wr.cell? ⟨bs, p1, none⟩ = some (.int .u32 x1) := (by rw [← HX1.out]; exact (hrow _ hon).2 _ np1)
      have ca2 : wr.cell? ⟨bs, p2, none⟩ = some (.int .u32 x2) := (by rw [← HX2.out]; exact (hrow _ hon).2 _ np2)
      have ca3 : wr.cell? ⟨bs, p3, none⟩ = some (.int .u32 x3) := (by rw [← HX3.out]; exact (hrow _ hon).2 _ np3)
      have ca4 : wr.cell? ⟨bs, p4, none⟩ = some (.int .u32 x4) := (by rw [← HX4.out]; exact (hrow _ hon).2 _ np4)
      have ca5 : wr.cell? ⟨bs, p5, none⟩ = some (.int .u32 x5) := (by rw [← HX5.out]; exact (hrow _ hon).2 _ np5)
      have ca6 : wr.cell? ⟨bs, p6, none⟩ = some (.int .u32 x6) := (by rw [← HX6.out]; exact (hrow _ hon).2 _ np6)
      have ca7 : wr.cell? ⟨bs, p7, none⟩ = some (.int .u32 x7) := (by rw [← HX7.out]; exact (hrow _ hon).2 _ np7)
      clear hs hd hf hG0 hG1 hG2 hG3 hG4 hG5 hG6 hG7 hG8 hG9 hG10 hG11 hG12
      go_wp2_with (first | (refine wpList_storeI szB (.tmp 78) (.tmp 77) bd b0 .u8 y9 hbk nb0 rfl rfl rfl rfl ?_; intro w1 o1 k1; have on1 := hon.trans o1; clear ca0 ca1 ca2 ca3 ca4 ca5 ca6 ca7; have ca0 : w1.cell? ⟨bs, p0, none⟩ = some (.int .u32 x0) := (by rw [← HX0.out]; exact (hrow _ on1).2 _ np0); have ca1 : w1.cell? ⟨bs, p1, none⟩ = some (.int .u32 x1) := (by rw [← HX1.out]; exact (hrow _ on1).2 _ np1); have ca2 : w1.cell? ⟨bs, p2, none⟩ = some (.int .u32 x2) := (by rw [← HX2.out]; exact (hrow _ on1).2 _ np2); have ca3 : w1.cell? ⟨bs, p3, none⟩ = some (.int .u32 x3) := (by rw [← HX3.out]; exact (hrow _ on1).2 _ np3); have ca4 : w1.cell? ⟨bs, p4, none⟩ = some (.int .u32 x4) := (by rw [← HX4.out]; exact (hrow _ on1).2 _ np4); have ca5 : w1.cell? ⟨bs, p5, none⟩ = some (.int .u32 x5) := (by rw [← HX5.out]; exact (hrow _ on1).2 _ np5); have ca6 : w1.cell? ⟨bs, p6, none⟩ = some (.int .u32 x6) := (by rw [← HX6.out]; exact (hrow _ on1).2 _ np6); have ca7 : w1.cell? ⟨bs, p7, none⟩ = some (.int .u32 x7) := (by rw [← HX7.out]; exact (hrow _ on1).2 _ np7); simp only [Act.put]) | (refine wpList_storeI szB (.tmp 89) (.tmp 88) bd b1 .u8 y14 k1 nb1 rfl rfl rfl rfl ?_; intro w2 o2 k2; have on2 := on1.trans o2; clear ca0 ca1 ca2 ca3 ca4 ca5 ca6 ca7; have ca0 : w2.cell? ⟨bs, p0, none⟩ = some (.int .u32 x0) := (by rw [← HX0.out]; exact (hrow _ on2).2 _ np0); have ca1 : w2.cell? ⟨bs, p1, none⟩ = some (.int .u32 x1) := (by rw [← HX1.out]; exact (hrow _ on2).2 _ np1); have ca2 : w2.cell? ⟨bs, p2, none⟩ = some (.int .u32 x2) := (by rw [← HX2.out]; exact (hrow _ on2).2 _ np2); have ca3 : w2.cell? ⟨bs, p3, none⟩ = some (.int .u32 x3) := (by rw [← HX3.out]; exact (hrow _ on2).2 _ np3); have ca4 : w2.cell? ⟨bs, p4, none⟩ = some (.int .u32 x4) := (by rw [← HX4.out]; exact (hrow _ on2).2 _ np4); have ca5 : w2.cell? ⟨bs, p5, none⟩ = some (.int .u32 x5) := (by rw [← HX5.out]; exact (hrow _ on2).2 _ np5); have ca6 : w2.cell? ⟨bs, p6, none⟩ = some (.int .u32 x6) := (by rw [← HX6.out]; exact (hrow _ on2).2 _ np6); have ca7 : w2.cell? ⟨bs, p7, none⟩ = some (.int .u32 x7) := (by rw [← HX7.out]; exact (hrow _ on2).2 _ np7); simp only [Act.put]) | (refine wpList_storeI szB (.tmp 96) (.tmp 95) bd b2 .u8 y16 k2 nb2 rfl rfl rfl rfl ?_; intro w3 o3 k3; have on3 := on2.trans o3; clear ca0 ca1 ca2 ca3 ca4 ca5 ca6 ca7; have ca0 : w3.cell? ⟨bs, p0, none⟩ = some (.int .u32 x0) := (by rw [← HX0.out]; exact (hrow _ on3).2 _ np0); have ca1 : w3.cell? ⟨bs, p1, none⟩ = some (.int .u32 x1) := (by rw [← HX1.out]; exact (hrow _ on3).2 _ np1); have ca2 : w3.cell? ⟨bs, p2, none⟩ = some (.int .u32 x2) := (by rw [← HX2.out]; exact (hrow _ on3).2 _ np2); have ca3 : w3.cell? ⟨bs, p3, none⟩ = some (.int .u32 x3) := (by rw [← HX3.out]; exact (hrow _ on3).2 _ np3); have ca4 : w3.cell? ⟨bs, p4, none⟩ = some (.int .u32 x4) := (by rw [← HX4.out]; exact (hrow _ on3).2 _ np4); have ca5 : w3.cell? ⟨bs, p5, none⟩ = some (.int .u32 x5) := (by rw [← HX5.out]; exact (hrow _ on3).2 _ np5); have ca6 : w3.cell? ⟨bs, p6, none⟩ = some (.int .u32 x6) := (by rw [← HX6.out]; exact (hrow _ on3).2 _ np6); have ca7 : w3.cell? ⟨bs, p7, none⟩ = some (.int .u32 x7) := (by rw [← HX7.out]; exact (hrow _ on3).2 _ np7); simp only [Act.put]) | (refine wpList_storeI szB (.tmp 107) (.tmp 106) bd b3 .u8 y21 k3 nb3 rfl rfl rfl rfl ?_; intro w4 o4 k4; have on4 := on3.trans o4; clear ca0 ca1 ca2 ca3 ca4 ca5 ca6 ca7; have ca0 : w4.cell? ⟨bs, p0, none⟩ = some (.int .u32 x0) := (by rw [← HX0.out]; exact (hrow _ on4).2 _ np0); have ca1 : w4.cell? ⟨bs, p1, none⟩ = some (.int .u32 x1) := (by rw [← HX1.out]; exact (hrow _ on4).2 _ np1); have ca2 : w4.cell? ⟨bs, p2, none⟩ = some (.int .u32 x2) := (by rw [← HX2.out]; exact (hrow _ on4).2 _ np2); have ca3 : w4.cell? ⟨bs, p3, none⟩ = some (.int .u32 x3) := (by rw [← HX3.out]; exact (hrow _ on4).2 _ np3); have ca4 : w4.cell? ⟨bs, p4, none⟩ = some (.int .u32 x4) := (by rw [← HX4.out]; exact (hrow _ on4).2 _ np4); have ca5 : w4.cell? ⟨bs, p5, none⟩ = some (.int .u32 x5) := (by rw [← HX5.out]; exact (hrow _ on4).2 _ np5); have ca6 : w4.cell? ⟨bs, p6, none⟩ = some (.int .u32 x6) := (by rw [← HX6.out]; exact (hrow _ on4).2 _ np6); have ca7 : w4.cell? ⟨bs, p7, none⟩ = some (.int .u32 x7) := (by rw [← HX7.out]; exact (hrow _ on4).2 _ np7); simp only [Act.put]) | (refine wpList_storeI szB (.tmp 118) (.tmp 117) bd b4 .u8 y26 k4 nb4 rfl rfl rfl rfl ?_; intro w5 o5 k5; have on5 := on4.trans o5; clear ca0 ca1 ca2 ca3 ca4 ca5 ca6 ca7; have ca0 : w5.cell? ⟨bs, p0, none⟩ = some (.int .u32 x0) := (by rw [← HX0.out]; exact (hrow _ on5).2 _ np0); have ca1 : w5.cell? ⟨bs, p1, none⟩ = some (.int .u32 x1) := (by rw [← HX1.out]; exact (hrow _ on5).2 _ np1); have ca2 : w5.cell? ⟨bs, p2, none⟩ = some (.int .u32 x2) := (by rw [← HX2.out]; exact (hrow _ on5).2 _ np2); have ca3 : w5.cell? ⟨bs, p3, none⟩ = some (.int .u32 x3) := (by rw [← HX3.out]; exact (hrow _ on5).2 _ np3); have ca4 : w5.cell? ⟨bs, p4, none⟩ = some (.int .u32 x4) := (by rw [← HX4.out]; exact (hrow _ on5).2 _ np4); have ca5 : w5.cell? ⟨bs, p5, none⟩ = some (.int .u32 x5) := (by rw [← HX5.out]; exact (hrow _ on5).2 _ np5); have ca6 : w5.cell? ⟨bs, p6, none⟩ = some (.int .u32 x6) := (by rw [← HX6.out]; exact (hrow _ on5).2 _ np6); have ca7 : w5.cell? ⟨bs, p7, none⟩ = some (.int .u32 x7) := (by rw [← HX7.out]; exact (hrow _ on5).2 _ np7); simp only [Act.put]) | (refine wpList_storeI szB (.tmp 125) (.tmp 124) bd b5 .u8 y28 k5 nb5 rfl rfl rfl rfl ?_; intro w6 o6 k6; have on6 := on5.trans o6; clear ca0 ca1 ca2 ca3 ca4 ca5 ca6 ca7; have ca0 : w6.cell? ⟨bs, p0, none⟩ = some (.int .u32 x0) := (by rw [← HX0.out]; exact (hrow _ on6).2 _ np0); have ca1 : w6.cell? ⟨bs, p1, none⟩ = some (.int .u32 x1) := (by rw [← HX1.out]; exact (hrow _ on6).2 _ np1); have ca2 : w6.cell? ⟨bs, p2, none⟩ = some (.int .u32 x2) := (by rw [← HX2.out]; exact (hrow _ on6).2 _ np2); have ca3 : w6.cell? ⟨bs, p3, none⟩ = some (.int .u32 x3) := (by rw [← HX3.out]; exact (hrow _ on6).2 _ np3); have ca4 : w6.cell? ⟨bs, p4, none⟩ = some (.int .u32 x4) := (by rw [← HX4.out]; exact (hrow _ on6).2 _ np4); have ca5 : w6.cell? ⟨bs, p5, none⟩ = some (.int .u32 x5) := (by rw [← HX5.out]; exact (hrow _ on6).2 _ np5); have ca6 : w6.cell? ⟨bs, p6, none⟩ = some (.int .u32 x6) := (by rw [← HX6.out]; exact (hrow _ on6).2 _ np6); have ca7 : w6.cell? ⟨bs, p7, none⟩ = some (.int .u32 x7) := (by rw [← HX7.out]; exact (hrow _ on6).2 _ np7); simp only [Act.put]) | (refine wpList_storeI szB (.tmp 136) (.tmp 135) bd b6 .u8 y33 k6 nb6 rfl rfl rfl rfl ?_; intro w7 o7 k7; have on7 := on6.trans o7; clear ca0 ca1 ca2 ca3 ca4 ca5 ca6 ca7; have ca0 : w7.cell? ⟨bs, p0, none⟩ = some (.int .u32 x0) := (by rw [← HX0.out]; exact (hrow _ on7).2 _ np0); have ca1 : w7.cell? ⟨bs, p1, none⟩ = some (.int .u32 x1) := (by rw [← HX1.out]; exact (hrow _ on7).2 _ np1); have ca2 : w7.cell? ⟨bs, p2, none⟩ = some (.int .u32 x2) := (by rw [← HX2.out]; exact (hrow _ on7).2 _ np2); have ca3 : w7.cell? ⟨bs, p3, none⟩ = some (.int .u32 x3) := (by rw [← HX3.out]; exact (hrow _ on7).2 _ np3); have ca4 : w7.cell? ⟨bs, p4, none⟩ = some (.int .u32 x4) := (by rw [← HX4.out]; exact (hrow _ on7).2 _ np4); have ca5 : w7.cell? ⟨bs, p5, none⟩ = some (.int .u32 x5) := (by rw [← HX5.out]; exact (hrow _ on7).2 _ np5); have ca6 : w7.cell? ⟨bs, p6, none⟩ = some (.int .u32 x6) := (by rw [← HX6.out]; exact (hrow _ on7).2 _ np6); have ca7 : w7.cell? ⟨bs, p7, none⟩ = some (.int .u32 x7) := (by rw [← HX7.out]; exact (hrow _ on7).2 _ np7); simp only [Act.put]) | (refine wpList_storeI szB (.tmp 143) (.tmp 142) bd b7 .u8 y35 k7 nb7 rfl rfl rfl rfl ?_; intro w8 o8 k8; have on8 := on7.trans o8; clear ca0 ca1 ca2 ca3 ca4 ca5 ca6 ca7; have ca0 : w8.cell? ⟨bs, p0, none⟩ = some (.int .u32 x0) := (by rw [← HX0.out]; exact (hrow _ on8).2 _ np0); have ca1 : w8.cell? ⟨bs, p1, none⟩ = some (.int .u32 x1) := (by rw [← HX1.out]; exact (hrow _ on8).2 _ np1); have ca2 : w8.cell? ⟨bs, p2, none⟩ = some (.int .u32 x2) := (by rw [← HX2.out]; exact (hrow _ on8).2 _ np2); have ca3 : w8.cell? ⟨bs, p3, none⟩ = some (.int .u32 x3) := (by rw [← HX3.out]; exact (hrow _ on8).2 _ np3); have ca4 : w8.cell? ⟨bs, p4, none⟩ = some (.int .u32 x4) := (by rw [← HX4.out]; exact (hrow _ on8).2 _ np4); have ca5 : w8.cell? ⟨bs, p5, none⟩ = some (.int .u32 x5) := (by rw [← HX5.out]; exact (hrow _ on8).2 _ np5); have ca6 : w8.cell? ⟨bs, p6, none⟩ = some (.int .u32 x6) := (by rw [← HX6.out]; exact (hrow _ on8).2 _ np6); have ca7 : w8.cell? ⟨bs, p7, none⟩ = some (.int .u32 x7) := (by rw [← HX7.out]; exact (hrow _ on8).2 _ np7); simp only [Act.put]) | (refine wpList_storeI szB (.tmp 154) (.tmp 153) bd b8 .u8 y40 k8 nb8 rfl rfl rfl rfl ?_; intro w9 o9 k9; have on9 := on8.trans o9; clear ca0 ca1 ca2 ca3 ca4 ca5 ca6 ca7; have ca0 : w9.cell? ⟨bs, p0, none⟩ = some (.int .u32 x0) := (by rw [← HX0.out]; exact (hrow _ on9).2 _ np0); have ca1 : w9.cell? ⟨bs, p1, none⟩ = some (.int .u32 x1) := (by rw [← HX1.out]; exact (hrow _ on9).2 _ np1); have ca2 : w9.cell? ⟨bs, p2, none⟩ = some (.int .u32 x2) := (by rw [← HX2.out]; exact (hrow _ on9).2 _ np2); have ca3 : w9.cell? ⟨bs, p3, none⟩ = some (.int .u32 x3) := (by rw [← HX3.out]; exact (hrow _ on9).2 _ np3); have ca4 : w9.cell? ⟨bs, p4, none⟩ = some (.int .u32 x4) := (by rw [← HX4.out]; exact (hrow _ on9).2 _ np4); have ca5 : w9.cell? ⟨bs, p5, none⟩ = some (.int .u32 x5) := (by rw [← HX5.out]; exact (hrow _ on9).2 _ np5); have ca6 : w9.cell? ⟨bs, p6, none⟩ = some (.int .u32 x6) := (by rw [← HX6.out]; exact (hrow _ on9).2 _ np6); have ca7 : w9.cell? ⟨bs, p7, none⟩ = some (.int .u32 x7) := (by rw [← HX7.out]; exact (hrow _ on9).2 _ np7); simp only [Act.put]) | (refine wpList_storeI szB (.tmp 165) (.tmp 164) bd b9 .u8 y45 k9 nb9 rfl rfl rfl rfl ?_; intro w10 o10 k10; have on10 := on9.trans o10; clear ca0 ca1 ca2 ca3 ca4 ca5 ca6 ca7; have ca0 : w10.cell? ⟨bs, p0, none⟩ = some (.int .u32 x0) := (by rw [← HX0.out]; exact (hrow _ on10).2 _ np0); have ca1 : w10.cell? ⟨bs, p1, none⟩ = some (.int .u32 x1) := (by rw [← HX1.out]; exact (hrow _ on10).2 _ np1); have ca2 : w10.cell? ⟨bs, p2, none⟩ = some (.int .u32 x2) := (by rw [← HX2.out]; exact (hrow _ on10).2 _ np2); have ca3 : w10.cell? ⟨bs, p3, none⟩ = some (.int .u32 x3) := (by rw [← HX3.out]; exact (hrow _ on10).2 _ np3); have ca4 : w10.cell? ⟨bs, p4, none⟩ = some (.int .u32 x4) := (by rw [← HX4.out]; exact (hrow _ on10).2 _ np4); have ca5 : w10.cell? ⟨bs, p5, none⟩ = some (.int .u32 x5) := (by rw [← HX5.out]; exact (hrow _ on10).2 _ np5); have ca6 : w10.cell? ⟨bs, p6, none⟩ = some (.int .u32 x6) := (by rw [← HX6.out]; exact (hrow _ on10).2 _ np6); have ca7 : w10.cell? ⟨bs, p7, none⟩ = some (.int .u32 x7) := (by rw [← HX7.out]; exact (hrow _ on10).2 _ np7); simp only [Act.put]) | (refine wpList_storeI szB (.tmp 172) (.tmp 171) bd b10 .u8 y47 k10 nb10 rfl rfl rfl rfl ?_; intro w11 o11 k11; have on11 := on10.trans o11; clear ca0 ca1 ca2 ca3 ca4 ca5 ca6 ca7; have ca0 : w11.cell? ⟨bs, p0, none⟩ = some (.int .u32 x0) := (by rw [← HX0.out]; exact (hrow _ on11).2 _ np0); have ca1 : w11.cell? ⟨bs, p1, none⟩ = some (.int .u32 x1) := (by rw [← HX1.out]; exact (hrow _ on11).2 _ np1); have ca2 : w11.cell? ⟨bs, p2, none⟩ = some (.int .u32 x2) := (by rw [← HX2.out]; exact (hrow _ on11).2 _ np2); have ca3 : w11.cell? ⟨bs, p3, none⟩ = some (.int .u32 x3) := (by rw [← HX3.out]; exact (hrow _ on11).2 _ np3); have ca4 : w11.cell? ⟨bs, p4, none⟩ = some (.int .u32 x4) := (by rw [← HX4.out]; exact (hrow _ on11).2 _ np4); have ca5 : w11.cell? ⟨bs, p5, none⟩ = some (.int .u32 x5) := (by rw [← HX5.out]; exact (hrow _ on11).2 _ np5); have ca6 : w11.cell? ⟨bs, p6, none⟩ = some (.int .u32 x6) := (by rw [← HX6.out]; exact (hrow _ on11).2 _ np6); have ca7 : w11.cell? ⟨bs, p7, none⟩ = some (.int .u32 x7) := (by rw [← HX7.out]; exact (hrow _ on11).2 _ np7); simp only [Act.put]) | (refine wpList_storeI szB (.tmp 183) (.tmp 182) bd b11 .u8 y52 k11 nb11 rfl rfl rfl rfl ?_; intro w12 o12 k12; have on12 := on11.trans o12; clear ca0 ca1 ca2 ca3 ca4 ca5 ca6 ca7; have ca0 : w12.cell? ⟨bs, p0, none⟩ = some (.int .u32 x0) := (by rw [← HX0.out]; exact (hrow _ on12).2 _ np0); have ca1 : w12.cell? ⟨bs, p1, none⟩ = some (.int .u32 x1) := (by rw [← HX1.out]; exact (hrow _ on12).2 _ np1); have ca2 : w12.cell? ⟨bs, p2, none⟩ = some (.int .u32 x2) := (by rw [← HX2.out]; exact (hrow _ on12).2 _ np2); have ca3 : w12.cell? ⟨bs, p3, none⟩ = some (.int .u32 x3) := (by rw [← HX3.out]; exact (hrow _ on12).2 _ np3); have ca4 : w12.cell? ⟨bs, p4, none⟩ = some (.int .u32 x4) := (by rw [← HX4.out]; exact (hrow _ on12).2 _ np4); have ca5 : w12.cell? ⟨bs, p5, none⟩ = some (.int .u32 x5) := (by rw [← HX5.out]; exact (hrow _ on12).2 _ np5); have ca6 : w12.cell? ⟨bs, p6, none⟩ = some (.int .u32 x6) := (by rw [← HX6.out]; exact (hrow _ on12).2 _ np6); have ca7 : w12.cell? ⟨bs, p7, none⟩ = some (.int .u32 x7) := (by rw [← HX7.out]; exact (hrow _ on12).2 _ np7); simp only [Act.put]) | (refine wpList_storeI szB (.tmp 190) (.tmp 189) bd b12 .u8 y54 k12 nb12 rfl rfl rfl rfl ?_; intro w13 o13 k13; have on13 := on12.trans o13; clear ca0 ca1 ca2 ca3 ca4 ca5 ca6 ca7; have ca0 : w13.cell? ⟨bs, p0, none⟩ = some (.int .u32 x0) := (by rw [← HX0.out]; exact (hrow _ on13).2 _ np0); have ca1 : w13.cell? ⟨bs, p1, none⟩ = some (.int .u32 x1) := (by rw [← HX1.out]; exact (hrow _ on13).2 _ np1); have ca2 : w13.cell? ⟨bs, p2, none⟩ = some (.int .u32 x2) := (by rw [← HX2.out]; exact (hrow _ on13).2 _ np2); have ca3 : w13.cell? ⟨bs, p3, none⟩ = some (.int .u32 x3) := (by rw [← HX3.out]; exact (hrow _ on13).2 _ np3); have ca4 : w13.cell? ⟨bs, p4, none⟩ = some (.int .u32 x4) := (by rw [← HX4.out]; exact (hrow _ on13).2 _ np4); have ca5 : w13.cell? ⟨bs, p5, none⟩ = some (.int .u32 x5) := (by rw [← HX5.out]; exact (hrow _ on13).2 _ np5); have ca6 : w13.cell? ⟨bs, p6, none⟩ = some (.int .u32 x6) := (by rw [← HX6.out]; exact (hrow _ on13).2 _ np6); have ca7 : w13.cell? ⟨bs, p7, none⟩ = some (.int .u32 x7) := (by rw [← HX7.out]; exact (hrow _ on13).2 _ np7); simp only [Act.put]))
      go_roundw
      case rel =>
        have ep0 := Ep0.out
        have ep1 := Ep1.out
        have ep2 := Ep2.out
        have ep3 := Ep3.out
        have ep4 := Ep4.out
        have ep5 := Ep5.out
        have ep6 := Ep6.out
        have ep7 := Ep7.out
        have eb0 := Eb0.out
        have eb1 := Eb1.out
        have eb2 := Eb2.out
        have eb3 := Eb3.out
        have eb4 := Eb4.out
        have eb5 := Eb5.out
        have eb6 := Eb6.out
        have eb7 := Eb7.out
        have eb8 := Eb8.out
        have eb9 := Eb9.out
        have eb10 := Eb10.out
        have eb11 := Eb11.out
        have eb12 := Eb12.out
        refine ⟨r + 1, by omega, by go_num, by go_num, on13, ?_⟩
        refine k13.congr fun x hx => ?_
        unfold upto ints
        by_cases c12 : x = b12
        · rw [if_pos c12, if_pos (by omega), c12, HG12.out, FIN12.out]
        rw [if_neg c12]
        by_cases c11 : x = b11
        · rw [if_pos c11, if_pos (by omega), c11, HG11.out, FIN11.out]
        rw [if_neg c11]
        by_cases c10 : x = b10
        · rw [if_pos c10, if_pos (by omega), c10, HG10.out, FIN10.out]
        rw [if_neg c10]
        by_cases c9 : x = b9
        · rw [if_pos c9, if_pos (by omega), c9, HG9.out, FIN9.out]
        rw [if_neg c9]
        by_cases c8 : x = b8
        · rw [if_pos c8, if_pos (by omega), c8, HG8.out, FIN8.out]
        rw [if_neg c8]
        by_cases c7 : x = b7
        · rw [if_pos c7, if_pos (by omega), c7, HG7.out, FIN7.out]
        rw [if_neg c7]
        by_cases c6 : x = b6
        · rw [if_pos c6, if_pos (by omega), c6, HG6.out, FIN6.out]
        rw [if_neg c6]
        by_cases c5 : x = b5
        · rw [if_pos c5, if_pos (by omega), c5, HG5.out, FIN5.out]
        rw [if_neg c5]
        by_cases c4 : x = b4
        · rw [if_pos c4, if_pos (by omega), c4, HG4.out, FIN4.out]
        rw [if_neg c4]
        by_cases c3 : x = b3
        · rw [if_pos c3, if_pos (by omega), c3, HG3.out, FIN3.out]
        rw [if_neg c3]
        by_cases c2 : x = b2
        · rw [if_pos c2, if_pos (by omega), c2, HG2.out, FIN2.out]
        rw [if_neg c2]
        by_cases c1 : x = b1
        · rw [if_pos c1, if_pos (by omega), c1, HG1.out, FIN1.out]
        rw [if_neg c1]
        by_cases c0 : x = b0
        · rw [if_pos c0, if_pos (by omega), c0, HG0.out, FIN0.out]
        rw [if_neg c0]
        by_cases hlt : x < 13 * r
        · rw [if_pos hlt, if_pos (by omega)]
        · rw [if_neg hlt, if_neg (by omega)]
      case measure => simp [intOf]; omega
    · have hr' : r = 32 := by omega
      subst hr'
      go_wp2_with fail
      go_end0
      exact ⟨rfl, hon, by rw [show 13 * 32 = 416 by omega, upto_all] at hbk; exact hbk⟩
end Go.Proofs.Ytgkombmhadgioaa
