/- CompressTo (Kyber) at d = 5. -/
import Derived.Test.YtngmpnkhdjnhoaaKTan
import Derived.Test.YtngmpnkhdjnhoaaEncK
import Derived.Test.YtngmpnkhdjnhoaaOnly2
import Derived.Test.YtngmpnkhdjnhoaaBits
import Derived.Lib.Hide
namespace Go.Proofs.Ytngmpnkhdjnhoaa.comp5
open Go Go.Proofs Go.RowKit Go.Kd
set_option linter.unusedSimpArgs false
set_option linter.unusedVariables false
theorem szB : (Try.prog.info? 5).map (·.size) = some 1 := by kernel_rfl
theorem zeroT : (Try.prog.info? 56).map (fun i => (i.zero, i.size)) = some (some (.agg (cellsF 8 (ints .u16 fun _ => 0))), 8) := by rw [show cellsF 8 (ints .u16 fun _ => 0) = Array.replicate 8 (.int .u16 0) from (replicate_cellsF 8 _).symm]; kernel_rfl
theorem ok_all : (List.range 3329).all (fun x => ((x : Int) * 32 + 1664) * 315 / 1048576 % 65536 % 32 == ((x : Int) * 64 + 3329) / 6658 % 32) = true := by kernel_rfl
theorem ok (x : Int) (h : 0 ≤ x ∧ x ≤ 3328) : (x * 32 + 1664) * 315 / 1048576 % 65536 % 32 = (x * 64 + 3329) / 6658 % 32 := by
  obtain ⟨y, rfl⟩ := Int.eq_ofNat_of_zero_le h.1
  have h2 := List.all_eq_true.1 ok_all y (List.mem_range.2 (by omega))
  exact eq_of_beq h2
theorem in_ar (x0 g : Int) (h_x0 : 0 ≤ x0 ∧ x0 ≤ 3328) (hg : g = (x0 * 64 + 3329) / 6658 % 32) : ∃ y1 y2 y3 y4 y5 y6 y7 : Int, IntKind.u32.wrap x0 = y1 ∧ IntKind.u32.wrap (y1 * 32) = y2 ∧ IntKind.u32.wrap (y2 + 1664) = y3 ∧ IntKind.u32.wrap (y3 * 315) = y4 ∧ y4 / 1048576 = y5 ∧ IntKind.u16.wrap y5 = y6 ∧ bits .and .u16 y6 31 = y7 ∧ (x0) % 4294967296 = y1 ∧ (y1 * 32) % 4294967296 = y2 ∧ (y2 + 1664) % 4294967296 = y3 ∧ (y3 * 315) % 4294967296 = y4 ∧ (y5) % 65536 = y6 ∧ y7 = g := by
  obtain ⟨y1, hy1⟩ : ∃ y, IntKind.u32.wrap x0 = y := ⟨_, rfl⟩
  have my1 : y1 = (x0) % 4294967296 := by rw [← hy1, IntKind.wrap_u32]
  have ey1 : y1 = x0 := by omega
  obtain ⟨y2, hy2⟩ : ∃ y, IntKind.u32.wrap (y1 * 32) = y := ⟨_, rfl⟩
  have my2 : y2 = (y1 * 32) % 4294967296 := by rw [← hy2, IntKind.wrap_u32]
  have ey2 : y2 = y1 * 32 := by omega
  obtain ⟨y3, hy3⟩ : ∃ y, IntKind.u32.wrap (y2 + 1664) = y := ⟨_, rfl⟩
  have my3 : y3 = (y2 + 1664) % 4294967296 := by rw [← hy3, IntKind.wrap_u32]
  have ey3 : y3 = y2 + 1664 := by omega
  obtain ⟨y4, hy4⟩ : ∃ y, IntKind.u32.wrap (y3 * 315) = y := ⟨_, rfl⟩
  have my4 : y4 = (y3 * 315) % 4294967296 := by rw [← hy4, IntKind.wrap_u32]
  have ey4 : y4 = y3 * 315 := by omega
  obtain ⟨y5, hy5⟩ : ∃ y, y4 / 1048576 = y := ⟨_, rfl⟩
  have my5 : y5 = y4 / 1048576 := hy5.symm
  obtain ⟨y6, hy6⟩ : ∃ y, IntKind.u16.wrap y5 = y := ⟨_, rfl⟩
  have my6 : y6 = (y5) % 65536 := by rw [← hy6, wrap_u16']
  obtain ⟨y7, hy7⟩ : ∃ y, bits .and .u16 y6 31 = y := ⟨_, rfl⟩
  have my7 : y7 = y6 % 32 := by rw [← hy7]; exact and_u16 y6 5 _ (by decide) (by decide)
  exact ⟨y1, y2, y3, y4, y5, y6, y7, hy1, hy2, hy3, hy4, hy5, hy6, hy7, my1.symm, my2.symm, my3.symm, my4.symm, my6.symm, by rw [hg, ← ok x0 h_x0, my7, my6, my5, ey4, ey3, ey2, ey1]⟩
theorem out_ar0 (x0 x1 g : Int) (h_x0 : 0 ≤ x0 ∧ x0 ≤ 31) (h_x1 : 0 ≤ x1 ∧ x1 ≤ 31) (hg : g = x0 + x1 % 8 * 32) : ∃ y1 y2 y3 y4 : Int, IntKind.u8.wrap x0 = y1 ∧ IntKind.u16.wrap (x1 * 32) = y2 ∧ IntKind.u8.wrap y2 = y3 ∧ bits .or .u8 y1 y3 = y4 ∧ (x0) % 256 = y1 ∧ (x1 * 32) % 65536 = y2 ∧ (y2) % 256 = y3 ∧ y4 = g := by
  obtain ⟨y1, hy1⟩ : ∃ y, IntKind.u8.wrap x0 = y := ⟨_, rfl⟩
  have my1 : y1 = (x0) % 256 := by rw [← hy1, IntKind.wrap_u8]
  obtain ⟨y2, hy2⟩ : ∃ y, IntKind.u16.wrap (x1 * 32) = y := ⟨_, rfl⟩
  have my2 : y2 = (x1 * 32) % 65536 := by rw [← hy2, wrap_u16']
  obtain ⟨y3, hy3⟩ : ∃ y, IntKind.u8.wrap y2 = y := ⟨_, rfl⟩
  have my3 : y3 = (y2) % 256 := by rw [← hy3, IntKind.wrap_u8]
  obtain ⟨y4, hy4⟩ : ∃ y, bits .or .u8 y1 y3 = y := ⟨_, rfl⟩
  have my4 : y4 = y1 + y3 := by rw [← hy4]; exact or_u8 y1 y3 5 (y3 / 32) (by omega) (by omega) (by omega) (by omega) (by omega)
  exact ⟨y1, y2, y3, y4, hy1, hy2, hy3, hy4, my1.symm, my2.symm, my3.symm, by rw [hg]; omega⟩
theorem out_ar1 (x1 x2 x3 g : Int) (h_x1 : 0 ≤ x1 ∧ x1 ≤ 31) (h_x2 : 0 ≤ x2 ∧ x2 ≤ 31) (h_x3 : 0 ≤ x3 ∧ x3 ≤ 31) (hg : g = x1 / 8 + x2 * 4 + x3 % 2 * 128) : ∃ y5 y6 y7 y8 y9 y10 y11 y12 : Int, x1 / 8 = y5 ∧ IntKind.u8.wrap y5 = y6 ∧ IntKind.u16.wrap (x2 * 4) = y7 ∧ IntKind.u8.wrap y7 = y8 ∧ bits .or .u8 y6 y8 = y9 ∧ IntKind.u16.wrap (x3 * 128) = y10 ∧ IntKind.u8.wrap y10 = y11 ∧ bits .or .u8 y9 y11 = y12 ∧ (y5) % 256 = y6 ∧ (x2 * 4) % 65536 = y7 ∧ (y7) % 256 = y8 ∧ (x3 * 128) % 65536 = y10 ∧ (y10) % 256 = y11 ∧ y12 = g := by
  obtain ⟨y5, hy5⟩ : ∃ y, x1 / 8 = y := ⟨_, rfl⟩
  have my5 : y5 = x1 / 8 := hy5.symm
  obtain ⟨y6, hy6⟩ : ∃ y, IntKind.u8.wrap y5 = y := ⟨_, rfl⟩
  have my6 : y6 = (y5) % 256 := by rw [← hy6, IntKind.wrap_u8]
  obtain ⟨y7, hy7⟩ : ∃ y, IntKind.u16.wrap (x2 * 4) = y := ⟨_, rfl⟩
  have my7 : y7 = (x2 * 4) % 65536 := by rw [← hy7, wrap_u16']
  obtain ⟨y8, hy8⟩ : ∃ y, IntKind.u8.wrap y7 = y := ⟨_, rfl⟩
  have my8 : y8 = (y7) % 256 := by rw [← hy8, IntKind.wrap_u8]
  obtain ⟨y9, hy9⟩ : ∃ y, bits .or .u8 y6 y8 = y := ⟨_, rfl⟩
  have my9 : y9 = y6 + y8 := by rw [← hy9]; exact or_u8 y6 y8 2 (y8 / 4) (by omega) (by omega) (by omega) (by omega) (by omega)
  obtain ⟨y10, hy10⟩ : ∃ y, IntKind.u16.wrap (x3 * 128) = y := ⟨_, rfl⟩
  have my10 : y10 = (x3 * 128) % 65536 := by rw [← hy10, wrap_u16']
  obtain ⟨y11, hy11⟩ : ∃ y, IntKind.u8.wrap y10 = y := ⟨_, rfl⟩
  have my11 : y11 = (y10) % 256 := by rw [← hy11, IntKind.wrap_u8]
  obtain ⟨y12, hy12⟩ : ∃ y, bits .or .u8 y9 y11 = y := ⟨_, rfl⟩
  have my12 : y12 = y9 + y11 := by rw [← hy12]; exact or_u8 y9 y11 7 (y11 / 128) (by omega) (by omega) (by omega) (by omega) (by omega)
  exact ⟨y5, y6, y7, y8, y9, y10, y11, y12, hy5, hy6, hy7, hy8, hy9, hy10, hy11, hy12, my6.symm, my7.symm, my8.symm, my10.symm, my11.symm, by rw [hg]; omega⟩
theorem out_ar2 (x3 x4 g : Int) (h_x3 : 0 ≤ x3 ∧ x3 ≤ 31) (h_x4 : 0 ≤ x4 ∧ x4 ≤ 31) (hg : g = x3 / 2 + x4 % 16 * 16) : ∃ y13 y14 y15 y16 y17 : Int, x3 / 2 = y13 ∧ IntKind.u8.wrap y13 = y14 ∧ IntKind.u16.wrap (x4 * 16) = y15 ∧ IntKind.u8.wrap y15 = y16 ∧ bits .or .u8 y14 y16 = y17 ∧ (y13) % 256 = y14 ∧ (x4 * 16) % 65536 = y15 ∧ (y15) % 256 = y16 ∧ y17 = g := by
  obtain ⟨y13, hy13⟩ : ∃ y, x3 / 2 = y := ⟨_, rfl⟩
  have my13 : y13 = x3 / 2 := hy13.symm
  obtain ⟨y14, hy14⟩ : ∃ y, IntKind.u8.wrap y13 = y := ⟨_, rfl⟩
  have my14 : y14 = (y13) % 256 := by rw [← hy14, IntKind.wrap_u8]
  obtain ⟨y15, hy15⟩ : ∃ y, IntKind.u16.wrap (x4 * 16) = y := ⟨_, rfl⟩
  have my15 : y15 = (x4 * 16) % 65536 := by rw [← hy15, wrap_u16']
  obtain ⟨y16, hy16⟩ : ∃ y, IntKind.u8.wrap y15 = y := ⟨_, rfl⟩
  have my16 : y16 = (y15) % 256 := by rw [← hy16, IntKind.wrap_u8]
  obtain ⟨y17, hy17⟩ : ∃ y, bits .or .u8 y14 y16 = y := ⟨_, rfl⟩
  have my17 : y17 = y14 + y16 := by rw [← hy17]; exact or_u8 y14 y16 4 (y16 / 16) (by omega) (by omega) (by omega) (by omega) (by omega)
  exact ⟨y13, y14, y15, y16, y17, hy13, hy14, hy15, hy16, hy17, my14.symm, my15.symm, my16.symm, by rw [hg]; omega⟩
theorem out_ar3 (x4 x5 x6 g : Int) (h_x4 : 0 ≤ x4 ∧ x4 ≤ 31) (h_x5 : 0 ≤ x5 ∧ x5 ≤ 31) (h_x6 : 0 ≤ x6 ∧ x6 ≤ 31) (hg : g = x4 / 16 + x5 * 2 + x6 % 4 * 64) : ∃ y18 y19 y20 y21 y22 y23 y24 y25 : Int, x4 / 16 = y18 ∧ IntKind.u8.wrap y18 = y19 ∧ IntKind.u16.wrap (x5 * 2) = y20 ∧ IntKind.u8.wrap y20 = y21 ∧ bits .or .u8 y19 y21 = y22 ∧ IntKind.u16.wrap (x6 * 64) = y23 ∧ IntKind.u8.wrap y23 = y24 ∧ bits .or .u8 y22 y24 = y25 ∧ (y18) % 256 = y19 ∧ (x5 * 2) % 65536 = y20 ∧ (y20) % 256 = y21 ∧ (x6 * 64) % 65536 = y23 ∧ (y23) % 256 = y24 ∧ y25 = g := by
  obtain ⟨y18, hy18⟩ : ∃ y, x4 / 16 = y := ⟨_, rfl⟩
  have my18 : y18 = x4 / 16 := hy18.symm
  obtain ⟨y19, hy19⟩ : ∃ y, IntKind.u8.wrap y18 = y := ⟨_, rfl⟩
  have my19 : y19 = (y18) % 256 := by rw [← hy19, IntKind.wrap_u8]
  obtain ⟨y20, hy20⟩ : ∃ y, IntKind.u16.wrap (x5 * 2) = y := ⟨_, rfl⟩
  have my20 : y20 = (x5 * 2) % 65536 := by rw [← hy20, wrap_u16']
  obtain ⟨y21, hy21⟩ : ∃ y, IntKind.u8.wrap y20 = y := ⟨_, rfl⟩
  have my21 : y21 = (y20) % 256 := by rw [← hy21, IntKind.wrap_u8]
  obtain ⟨y22, hy22⟩ : ∃ y, bits .or .u8 y19 y21 = y := ⟨_, rfl⟩
  have my22 : y22 = y19 + y21 := by rw [← hy22]; exact or_u8 y19 y21 1 (y21 / 2) (by omega) (by omega) (by omega) (by omega) (by omega)
  obtain ⟨y23, hy23⟩ : ∃ y, IntKind.u16.wrap (x6 * 64) = y := ⟨_, rfl⟩
  have my23 : y23 = (x6 * 64) % 65536 := by rw [← hy23, wrap_u16']
  obtain ⟨y24, hy24⟩ : ∃ y, IntKind.u8.wrap y23 = y := ⟨_, rfl⟩
  have my24 : y24 = (y23) % 256 := by rw [← hy24, IntKind.wrap_u8]
  obtain ⟨y25, hy25⟩ : ∃ y, bits .or .u8 y22 y24 = y := ⟨_, rfl⟩
  have my25 : y25 = y22 + y24 := by rw [← hy25]; exact or_u8 y22 y24 6 (y24 / 64) (by omega) (by omega) (by omega) (by omega) (by omega)
  exact ⟨y18, y19, y20, y21, y22, y23, y24, y25, hy18, hy19, hy20, hy21, hy22, hy23, hy24, hy25, my19.symm, my20.symm, my21.symm, my23.symm, my24.symm, by rw [hg]; omega⟩
theorem out_ar4 (x6 x7 g : Int) (h_x6 : 0 ≤ x6 ∧ x6 ≤ 31) (h_x7 : 0 ≤ x7 ∧ x7 ≤ 31) (hg : g = x6 / 4 + x7 * 8) : ∃ y26 y27 y28 y29 y30 : Int, x6 / 4 = y26 ∧ IntKind.u8.wrap y26 = y27 ∧ IntKind.u16.wrap (x7 * 8) = y28 ∧ IntKind.u8.wrap y28 = y29 ∧ bits .or .u8 y27 y29 = y30 ∧ (y26) % 256 = y27 ∧ (x7 * 8) % 65536 = y28 ∧ (y28) % 256 = y29 ∧ y30 = g := by
  obtain ⟨y26, hy26⟩ : ∃ y, x6 / 4 = y := ⟨_, rfl⟩
  have my26 : y26 = x6 / 4 := hy26.symm
  obtain ⟨y27, hy27⟩ : ∃ y, IntKind.u8.wrap y26 = y := ⟨_, rfl⟩
  have my27 : y27 = (y26) % 256 := by rw [← hy27, IntKind.wrap_u8]
  obtain ⟨y28, hy28⟩ : ∃ y, IntKind.u16.wrap (x7 * 8) = y := ⟨_, rfl⟩
  have my28 : y28 = (x7 * 8) % 65536 := by rw [← hy28, wrap_u16']
  obtain ⟨y29, hy29⟩ : ∃ y, IntKind.u8.wrap y28 = y := ⟨_, rfl⟩
  have my29 : y29 = (y28) % 256 := by rw [← hy29, IntKind.wrap_u8]
  obtain ⟨y30, hy30⟩ : ∃ y, bits .or .u8 y27 y29 = y := ⟨_, rfl⟩
  have my30 : y30 = y27 + y29 := by rw [← hy30]; exact or_u8 y27 y29 3 (y29 / 8) (by omega) (by omega) (by omega) (by omega) (by omega)
  exact ⟨y26, y27, y28, y29, y30, hy26, hy27, hy28, hy29, hy30, my27.symm, my28.symm, my29.symm, by rw [hg]; omega⟩
set_option maxRecDepth 100000 in
set_option maxHeartbeats 20000000 in
theorem any (bs bd : Nat) (w0 w : World) (Td : TypeId) (f l G Z : Nat → Int) (hs0 : RowK w bs 256 .i16 f) (hd0 : Blk w bd Td (cellsF 160 (ints .u8 Z))) (hne : bs ≠ bd) (hx0 : Ext w0 w) (hsz : w0.heap.size ≤ bd) (hf : ∀ i, i < 256 → 0 ≤ f i ∧ f i ≤ 3328) (hlf : ∀ i, i < 256 → l i = (f i * 64 + 3329) / 6658 % 32)
    (hG0 : ∀ r, r < 32 → G (5 * r + 0) = l (8 * r + 0) + l (8 * r + 1) % 8 * 32) (hG1 : ∀ r, r < 32 → G (5 * r + 1) = l (8 * r + 1) / 8 + l (8 * r + 2) * 4 + l (8 * r + 3) % 2 * 128) (hG2 : ∀ r, r < 32 → G (5 * r + 2) = l (8 * r + 3) / 2 + l (8 * r + 4) % 16 * 16) (hG3 : ∀ r, r < 32 → G (5 * r + 3) = l (8 * r + 4) / 16 + l (8 * r + 5) * 2 + l (8 * r + 6) % 4 * 64) (hG4 : ∀ r, r < 32 → G (5 * r + 4) = l (8 * r + 6) / 4 + l (8 * r + 7) * 8) :
    Calls Try.prog 37 #[.pointer (some ⟨bs, 0, none⟩), .slice (some ⟨bd, 0, none⟩) 160 160, .int .i64 5] w fun e w' => e = .returned (.tuple #[]) ∧ Ext w0 w' ∧ Blk w' bd Td (cellsF 160 (ints .u8 G)) := by
  have ls := hs0.1
  have ld := hd0.lt
  have HH := Lib.hid hd0
  have HS := Lib.hid hs0
  clear hd0 hs0
  go_enter Try.func37, Try.ntmps37
  go_wp2_with (refine wpList_allocA 56 _ _ zeroT rfl rfl ?_; simp only [Act.put, List.setIfInBounds_toArray, List.set]; intro w1 bt ht x1 kt)
  have hs := HS.out.ext x1
  have hd := HH.out.ext x1
  have n1 : bs ≠ bt := by omega
  have n2 : bd ≠ bt := by omega
  have hw0 : w0.heap.size ≤ bt := by have := hx0.size; omega
  have HX := Lib.hid (Ext.trans hx0 x1)
  have HL := Lib.hid hlf
  clear x1 hx0 hlf
  go_loopw [12, 11] (fun x y wr => ∃ (r : Nat) (A : Nat → Int), r ≤ 32 ∧ x = .int .i64 (r : Nat) ∧ y = .int .i64 (5 * r : Nat) ∧ Only2 bt bd w1 wr ∧ Blk wr bt 56 (cellsF 8 (ints .u16 A)) ∧ Blk wr bd Td (cellsF 160 (upto (5 * r) (ints .u8 G) (ints .u8 Z)))) (fun x _ _ => 32 - (intOf x).toNat)
  case atStart => exact ⟨0, _, by omega, rfl, rfl, Only2.refl _ _ _, kt, by rw [upto_zero]; exact hd⟩
  case round =>
    obtain ⟨r, A, hr, rfl, rfl, hon, hbt, hbk⟩ := hrel
    by_cases hl : r < 32
    · clear kt hd HH HS
      go_wp2_with fail
      have hjz : decide ((r : Int) < 32) = true := decide_eq_true (by omega)
      rw [hjz]
      clear hjz
      go_loopw [13] (fun y wr => ∃ j : Nat, j ≤ 8 ∧ y = .int .i64 (j : Nat) ∧ Only2 bt bd w1 wr ∧ Blk wr bt 56 (cellsF 8 (upto j (ints .u16 fun k => l (8 * r + k)) (ints .u16 A))) ∧ Blk wr bd Td (cellsF 160 (upto (5 * r) (ints .u8 G) (ints .u8 Z)))) (fun y _ => 8 - (intOf y).toNat)
      case atStart => exact ⟨0, by omega, rfl, hon, by rw [upto_zero]; exact hbt, hbk⟩
      case round =>
        clear hon hbt hbk
        obtain ⟨j, hj, rfl, hon, hbt, hbk⟩ := hrel
        by_cases hjl : j < 8
        · obtain ⟨p, ep⟩ : ∃ p : Nat, p = 8 * r + j := ⟨_, rfl⟩
          have hnp : p < 256 := by omega
          obtain ⟨f1, f2⟩ := hf p hnp
          have gg := HL.out p hnp
          have cb : wr.cell? ⟨bs, p, none⟩ = some (.int .i16 (f p)) := (hon.row n1 hne hs).2 p hnp
          have ca : wr.cell? ⟨bt, j, none⟩ = some (.int .u16 (A j)) := by have h := hbt.cell hjl; rw [upto_at] at h; exact h
          have fp := hbt.frozen j
          have hlp : l (8 * r + j) = l p := by rw [ep]
          generalize l p = g at *
          generalize f p = x0 at *
          obtain ⟨y1, y2, y3, y4, y5, y6, y7, hy1, hy2, hy3, hy4, hy5, hy6, hy7, my1, my2, my3, my4, my6, fing⟩ := in_ar x0 g ⟨f1, f2⟩ gg
          have HF := Lib.hid (fing.trans hlp.symm)
          have hv1 := hon
          have HE := Lib.hid ep
          have z8 : 8 * (r : Int) + (j : Int) = (p : Int) := by omega
          have zb : (p : Int) < 256 := by omega
          have HN := Lib.hid hv1
          have HA := Lib.hid hf
          clear gg fing hlp ep hv1 hs hf hne n1
          clear hG0 hG1 hG2 hG3 hG4
          go_wp2_with fail
          go_roundw
          case rel =>
            have os : Only bt wr (wr.setCell ⟨bt, j, none⟩ (.int .u16 y7)) := (Only.refl bt wr).setCell _
            refine ⟨j + 1, by omega, by go_num, hon.trans (Only2.of1 os), ?_, os.blk n2 hbk⟩
            have h1 := Blk.setCell hbt j (ints .u16 (fun k => l (8 * r + k)) j)
            rw [upto_set (by rfl)] at h1
            rw [HF.out]
            exact h1
          case measure => simp [intOf]; omega
        · have hjN : j = 8 := by omega
          subst hjN
          rw [upto_all] at hbt
          have hrow := hbt.rowK
          have on0 : Only bd wr wr := Only.refl bd wr
          obtain ⟨b0, eb0⟩ : ∃ p : Nat, p = 5 * r + 0 := ⟨_, rfl⟩
          obtain ⟨b1, eb1⟩ : ∃ p : Nat, p = 5 * r + 1 := ⟨_, rfl⟩
          obtain ⟨b2, eb2⟩ : ∃ p : Nat, p = 5 * r + 2 := ⟨_, rfl⟩
          obtain ⟨b3, eb3⟩ : ∃ p : Nat, p = 5 * r + 3 := ⟨_, rfl⟩
          obtain ⟨b4, eb4⟩ : ∃ p : Nat, p = 5 * r + 4 := ⟨_, rfl⟩
          have la0 : 0 ≤ l (8 * r + 0) ∧ l (8 * r + 0) ≤ 31 := by have h := HL.out (8 * r + 0) (by omega); omega
          have la1 : 0 ≤ l (8 * r + 1) ∧ l (8 * r + 1) ≤ 31 := by have h := HL.out (8 * r + 1) (by omega); omega
          have la2 : 0 ≤ l (8 * r + 2) ∧ l (8 * r + 2) ≤ 31 := by have h := HL.out (8 * r + 2) (by omega); omega
          have la3 : 0 ≤ l (8 * r + 3) ∧ l (8 * r + 3) ≤ 31 := by have h := HL.out (8 * r + 3) (by omega); omega
          have la4 : 0 ≤ l (8 * r + 4) ∧ l (8 * r + 4) ≤ 31 := by have h := HL.out (8 * r + 4) (by omega); omega
          have la5 : 0 ≤ l (8 * r + 5) ∧ l (8 * r + 5) ≤ 31 := by have h := HL.out (8 * r + 5) (by omega); omega
          have la6 : 0 ≤ l (8 * r + 6) ∧ l (8 * r + 6) ≤ 31 := by have h := HL.out (8 * r + 6) (by omega); omega
          have la7 : 0 ≤ l (8 * r + 7) ∧ l (8 * r + 7) ≤ 31 := by have h := HL.out (8 * r + 7) (by omega); omega
          have gg0 : G b0 = l (8 * r + 0) + l (8 * r + 1) % 8 * 32 := by rw [eb0, hG0 r hl]
          have gg1 : G b1 = l (8 * r + 1) / 8 + l (8 * r + 2) * 4 + l (8 * r + 3) % 2 * 128 := by rw [eb1, hG1 r hl]
          have gg2 : G b2 = l (8 * r + 3) / 2 + l (8 * r + 4) % 16 * 16 := by rw [eb2, hG2 r hl]
          have gg3 : G b3 = l (8 * r + 4) / 16 + l (8 * r + 5) * 2 + l (8 * r + 6) % 4 * 64 := by rw [eb3, hG3 r hl]
          have gg4 : G b4 = l (8 * r + 6) / 4 + l (8 * r + 7) * 8 := by rw [eb4, hG4 r hl]
          have rc0 : ∀ w2, RowK w2 bt 8 .u16 (fun k => l (8 * r + k)) → w2.cell? ⟨bt, 0, none⟩ = some (.int .u16 (l (8 * r + 0))) := fun w2 h => h.2 0 (by omega)
          have rc1 : ∀ w2, RowK w2 bt 8 .u16 (fun k => l (8 * r + k)) → w2.cell? ⟨bt, 1, none⟩ = some (.int .u16 (l (8 * r + 1))) := fun w2 h => h.2 1 (by omega)
          have rc2 : ∀ w2, RowK w2 bt 8 .u16 (fun k => l (8 * r + k)) → w2.cell? ⟨bt, 2, none⟩ = some (.int .u16 (l (8 * r + 2))) := fun w2 h => h.2 2 (by omega)
          have rc3 : ∀ w2, RowK w2 bt 8 .u16 (fun k => l (8 * r + k)) → w2.cell? ⟨bt, 3, none⟩ = some (.int .u16 (l (8 * r + 3))) := fun w2 h => h.2 3 (by omega)
          have rc4 : ∀ w2, RowK w2 bt 8 .u16 (fun k => l (8 * r + k)) → w2.cell? ⟨bt, 4, none⟩ = some (.int .u16 (l (8 * r + 4))) := fun w2 h => h.2 4 (by omega)
          have rc5 : ∀ w2, RowK w2 bt 8 .u16 (fun k => l (8 * r + k)) → w2.cell? ⟨bt, 5, none⟩ = some (.int .u16 (l (8 * r + 5))) := fun w2 h => h.2 5 (by omega)
          have rc6 : ∀ w2, RowK w2 bt 8 .u16 (fun k => l (8 * r + k)) → w2.cell? ⟨bt, 6, none⟩ = some (.int .u16 (l (8 * r + 6))) := fun w2 h => h.2 6 (by omega)
          have rc7 : ∀ w2, RowK w2 bt 8 .u16 (fun k => l (8 * r + k)) → w2.cell? ⟨bt, 7, none⟩ = some (.int .u16 (l (8 * r + 7))) := fun w2 h => h.2 7 (by omega)
          generalize l (8 * r + 0) = x0 at *
          generalize l (8 * r + 1) = x1 at *
          generalize l (8 * r + 2) = x2 at *
          generalize l (8 * r + 3) = x3 at *
          generalize l (8 * r + 4) = x4 at *
          generalize l (8 * r + 5) = x5 at *
          generalize l (8 * r + 6) = x6 at *
          generalize l (8 * r + 7) = x7 at *
          generalize hg0 : G b0 = g0 at *
          generalize hg1 : G b1 = g1 at *
          generalize hg2 : G b2 = g2 at *
          generalize hg3 : G b3 = g3 at *
          generalize hg4 : G b4 = g4 at *
          have HG0 := Lib.hid hg0; clear hg0
          have HG1 := Lib.hid hg1; clear hg1
          have HG2 := Lib.hid hg2; clear hg2
          have HG3 := Lib.hid hg3; clear hg3
          have HG4 := Lib.hid hg4; clear hg4
          obtain ⟨y1, y2, y3, y4, hy1, hy2, hy3, hy4, my1, my2, my3, fing0⟩ := out_ar0 x0 x1 g0 la0 la1 gg0
          obtain ⟨y5, y6, y7, y8, y9, y10, y11, y12, hy5, hy6, hy7, hy8, hy9, hy10, hy11, hy12, my6, my7, my8, my10, my11, fing1⟩ := out_ar1 x1 x2 x3 g1 la1 la2 la3 gg1
          obtain ⟨y13, y14, y15, y16, y17, hy13, hy14, hy15, hy16, hy17, my14, my15, my16, fing2⟩ := out_ar2 x3 x4 g2 la3 la4 gg2
          obtain ⟨y18, y19, y20, y21, y22, y23, y24, y25, hy18, hy19, hy20, hy21, hy22, hy23, hy24, hy25, my19, my20, my21, my23, my24, fing3⟩ := out_ar3 x4 x5 x6 g3 la4 la5 la6 gg3
          obtain ⟨y26, y27, y28, y29, y30, hy26, hy27, hy28, hy29, hy30, my27, my28, my29, fing4⟩ := out_ar4 x6 x7 g4 la6 la7 gg4
          clear gg0 gg1 gg2 gg3 gg4
          have FIN0 := Lib.hid fing0; clear fing0
          have FIN1 := Lib.hid fing1; clear fing1
          have FIN2 := Lib.hid fing2; clear fing2
          have FIN3 := Lib.hid fing3; clear fing3
          have FIN4 := Lib.hid fing4; clear fing4
          have zb0 : 5 * (r : Int) = (b0 : Int) := by omega
          have tb0 : (b0 : Int) < 160 := by omega
          have nb0 : b0 < 160 := by omega
          have zb1 : (b0 : Int) + 1 = (b1 : Int) := by omega
          have ub1 : IntKind.i64.wrap (b1 : Int) = (b1 : Int) := by rw [IntKind.wrap_i64]; omega
          have tb1 : (b1 : Int) < 160 := by omega
          have nb1 : b1 < 160 := by omega
          have zb2 : (b0 : Int) + 2 = (b2 : Int) := by omega
          have ub2 : IntKind.i64.wrap (b2 : Int) = (b2 : Int) := by rw [IntKind.wrap_i64]; omega
          have tb2 : (b2 : Int) < 160 := by omega
          have nb2 : b2 < 160 := by omega
          have zb3 : (b0 : Int) + 3 = (b3 : Int) := by omega
          have ub3 : IntKind.i64.wrap (b3 : Int) = (b3 : Int) := by rw [IntKind.wrap_i64]; omega
          have tb3 : (b3 : Int) < 160 := by omega
          have nb3 : b3 < 160 := by omega
          have zb4 : (b0 : Int) + 4 = (b4 : Int) := by omega
          have ub4 : IntKind.i64.wrap (b4 : Int) = (b4 : Int) := by rw [IntKind.wrap_i64]; omega
          have tb4 : (b4 : Int) < 160 := by omega
          have nb4 : b4 < 160 := by omega
          have Eb0 := Lib.hid eb0; clear eb0
          have Eb1 := Lib.hid eb1; clear eb1
          have Eb2 := Lib.hid eb2; clear eb2
          have Eb3 := Lib.hid eb3; clear eb3
          have Eb4 := Lib.hid eb4; clear eb4
          have RC0 := Lib.hid rc0; clear rc0
          have RC1 := Lib.hid rc1; clear rc1
          have RC2 := Lib.hid rc2; clear rc2
          have RC3 := Lib.hid rc3; clear rc3
          have RC4 := Lib.hid rc4; clear rc4
          have RC5 := Lib.hid rc5; clear rc5
          have RC6 := Lib.hid rc6; clear rc6
          have RC7 := Lib.hid rc7; clear rc7
          have HR := Lib.hid (⟨hon, hbk, hs⟩ : _ ∧ _ ∧ _)
          have kk0 := hbk
          have ca0 := RC0.out wr hrow
          have ca1 := RC1.out wr hrow
          have ca2 := RC2.out wr hrow
          have ca3 := RC3.out wr hrow
          have ca4 := RC4.out wr hrow
          have ca5 := RC5.out wr hrow
          have ca6 := RC6.out wr hrow
          have ca7 := RC7.out wr hrow
          clear hs hf hbk hon hG0 hG1 hG2 hG3 hG4
          go_wp2_with (first | (refine wpList_storeI szB (.tmp 137) (.tmp 136) bd b0 .u8 y4 kk0 nb0 rfl rfl rfl rfl ?_; intro w2 o1 kk1; have on1 := on0.trans o1; clear ca0 ca1 ca2 ca3 ca4 ca5 ca6 ca7; have ca0 := RC0.out w2 (hrow.only n2.symm on1); have ca1 := RC1.out w2 (hrow.only n2.symm on1); have ca2 := RC2.out w2 (hrow.only n2.symm on1); have ca3 := RC3.out w2 (hrow.only n2.symm on1); have ca4 := RC4.out w2 (hrow.only n2.symm on1); have ca5 := RC5.out w2 (hrow.only n2.symm on1); have ca6 := RC6.out w2 (hrow.only n2.symm on1); have ca7 := RC7.out w2 (hrow.only n2.symm on1); simp only [Act.put]) | (refine wpList_storeI szB (.tmp 155) (.tmp 154) bd b1 .u8 y12 kk1 nb1 rfl rfl rfl rfl ?_; intro w3 o2 kk2; have on2 := on1.trans o2; clear ca0 ca1 ca2 ca3 ca4 ca5 ca6 ca7; have ca0 := RC0.out w3 (hrow.only n2.symm on2); have ca1 := RC1.out w3 (hrow.only n2.symm on2); have ca2 := RC2.out w3 (hrow.only n2.symm on2); have ca3 := RC3.out w3 (hrow.only n2.symm on2); have ca4 := RC4.out w3 (hrow.only n2.symm on2); have ca5 := RC5.out w3 (hrow.only n2.symm on2); have ca6 := RC6.out w3 (hrow.only n2.symm on2); have ca7 := RC7.out w3 (hrow.only n2.symm on2); simp only [Act.put]) | (refine wpList_storeI szB (.tmp 168) (.tmp 167) bd b2 .u8 y17 kk2 nb2 rfl rfl rfl rfl ?_; intro w4 o3 kk3; have on3 := on2.trans o3; clear ca0 ca1 ca2 ca3 ca4 ca5 ca6 ca7; have ca0 := RC0.out w4 (hrow.only n2.symm on3); have ca1 := RC1.out w4 (hrow.only n2.symm on3); have ca2 := RC2.out w4 (hrow.only n2.symm on3); have ca3 := RC3.out w4 (hrow.only n2.symm on3); have ca4 := RC4.out w4 (hrow.only n2.symm on3); have ca5 := RC5.out w4 (hrow.only n2.symm on3); have ca6 := RC6.out w4 (hrow.only n2.symm on3); have ca7 := RC7.out w4 (hrow.only n2.symm on3); simp only [Act.put]) | (refine wpList_storeI szB (.tmp 186) (.tmp 185) bd b3 .u8 y25 kk3 nb3 rfl rfl rfl rfl ?_; intro w5 o4 kk4; have on4 := on3.trans o4; clear ca0 ca1 ca2 ca3 ca4 ca5 ca6 ca7; have ca0 := RC0.out w5 (hrow.only n2.symm on4); have ca1 := RC1.out w5 (hrow.only n2.symm on4); have ca2 := RC2.out w5 (hrow.only n2.symm on4); have ca3 := RC3.out w5 (hrow.only n2.symm on4); have ca4 := RC4.out w5 (hrow.only n2.symm on4); have ca5 := RC5.out w5 (hrow.only n2.symm on4); have ca6 := RC6.out w5 (hrow.only n2.symm on4); have ca7 := RC7.out w5 (hrow.only n2.symm on4); simp only [Act.put]) | (refine wpList_storeI szB (.tmp 199) (.tmp 198) bd b4 .u8 y30 kk4 nb4 rfl rfl rfl rfl ?_; intro w6 o5 kk5; have on5 := on4.trans o5; clear ca0 ca1 ca2 ca3 ca4 ca5 ca6 ca7; have ca0 := RC0.out w6 (hrow.only n2.symm on5); have ca1 := RC1.out w6 (hrow.only n2.symm on5); have ca2 := RC2.out w6 (hrow.only n2.symm on5); have ca3 := RC3.out w6 (hrow.only n2.symm on5); have ca4 := RC4.out w6 (hrow.only n2.symm on5); have ca5 := RC5.out w6 (hrow.only n2.symm on5); have ca6 := RC6.out w6 (hrow.only n2.symm on5); have ca7 := RC7.out w6 (hrow.only n2.symm on5); simp only [Act.put]))
          go_roundw
          case rel =>
            have eb0 := Eb0.out
            have eb1 := Eb1.out
            have eb2 := Eb2.out
            have eb3 := Eb3.out
            have eb4 := Eb4.out
            refine ⟨r + 1, _, by omega, by go_num, by go_num, HR.out.1.trans (Only2.of2 on5), on5.blk n2.symm hbt, ?_⟩
            refine kk5.congr fun x hx => ?_
            unfold upto ints
            by_cases c4 : x = b4
            · rw [if_pos c4, if_pos (by omega), c4, HG4.out, FIN4.out]
            rw [if_neg c4]
            by_cases c3 : x = b3
            · rw [if_pos c3, if_pos (by omega), c3, HG3.out, FIN3.out]
            rw [if_neg c3]
            by_cases c2 : x = b2
            · rw [if_pos c2, if_pos (by omega), c2, HG2.out, FIN2.out]
            rw [if_neg c2]
            by_cases c1 : x = b1
            · rw [if_pos c1, if_pos (by omega), c1, HG1.out, FIN1.out]
            rw [if_neg c1]
            by_cases c0 : x = b0
            · rw [if_pos c0, if_pos (by omega), c0, HG0.out, FIN0.out]
            rw [if_neg c0]
            by_cases hlt : x < 5 * r
            · rw [if_pos hlt, if_pos (by omega)]
            · rw [if_neg hlt, if_neg (by omega)]
          case measure => simp [intOf]; omega
    · have hr' : r = 32 := by omega
      subst hr'
      clear kt hd HH HS hs hf
      go_wp2_with fail
      go_end0
      refine ⟨rfl, ?_, by rw [show 5 * 32 = 160 by omega, upto_all] at hbk; exact hbk⟩
      exact hon.ext HX.out hw0 hsz
end Go.Proofs.Ytngmpnkhdjnhoaa.comp5
