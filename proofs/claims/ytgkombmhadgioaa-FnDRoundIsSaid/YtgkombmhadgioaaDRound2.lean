/- DPower2Round, spec.Round. -/
import Derived.Test.YtgkombmhadgioaaDRound
import Derived.Test.YtgkombmhadgioaaDTab
import Derived.Lib.Hide
namespace Go.Proofs.Ytgkombmhadgioaa
open Go Go.Proofs Go.RowKit Go.Kd
set_option linter.unusedSimpArgs false
set_option linter.unusedVariables false

theorem roundM_any (b b1 b2 : Nat) (w : World) (T1 T2 : TypeId) (f Z1 Z2 : Nat → Int) (hb : RowK w b 256 .u32 f) (hd1 : Blk w b1 T1 (cellsF 256 (ints .u32 Z1))) (hd2 : Blk w b2 T2 (cellsF 256 (ints .u32 Z2)))
    (n1 : b ≠ b1) (n2 : b ≠ b2) (n3 : b1 ≠ b2) (hf : ∀ i, i < 256 → 0 ≤ f i ∧ f i < 8380417) :
    Calls Try.prog 52 #[.pointer (some ⟨b, 0, none⟩), .pointer (some ⟨b1, 0, none⟩), .pointer (some ⟨b2, 0, none⟩)] w fun e w' => e = .returned (.tuple #[]) ∧ Only2 b1 b2 w w' ∧
      Blk w' b1 T1 (cellsF 256 (ints .u32 (lowF f))) ∧ Blk w' b2 T2 (cellsF 256 (ints .u32 (highF f))) := by
  have H := Lib.hid (round_any b b1 b2 w T1 T2 f Z1 Z2 hb hd1 hd2 n1 n2 n3 hf)
  clear hb hd1 hd2 hf
  go_enter Try.func52, Try.ntmps52
  go_wp2_with (go_at_call 72; refine H.out.mono ?_; rintro e w' ⟨rfl, hq⟩)
  go_end0
  exact ⟨rfl, hq⟩

set_option maxRecDepth 100000 in
theorem dRound_any (f : Nat → Int) (w : World) (hf : ∀ i, i < 256 → 0 ≤ f i ∧ f i < 8380417) :
    Calls Try.prog 29 #[.agg (cellsF 256 (ints .u32 f))] w fun e w' => e = .returned (.tuple #[.agg (cellsF 256 (ints .u32 (lowF f))), .agg (cellsF 256 (ints .u32 (highF f)))]) ∧ Ext w w' := by
  go_enter Try.func29, Try.ntmps29
  refine wp_region_then ?_
  refine wpList_boxA 27 (.tmp 0) _ rfl rfl rfl ?_
  simp only [Act.put, List.setIfInBounds_toArray, List.set]
  intro w1 bp hp x1 kp
  have X1 := Ext.trans (Ext.refl w) x1
  have z1 := x1.size
  have lp := kp.lt
  refine wpList_allocA 27 _ _ zeroK rfl rfl ?_
  simp only [Act.put, List.setIfInBounds_toArray, List.set]
  intro w2 br hr x2 kr
  have X2 := Ext.trans X1 x2
  have z2 := x2.size
  replace kp := kp.ext x2
  have lr := kr.lt
  refine wpList_allocA 27 _ _ zeroK rfl rfl ?_
  simp only [Act.put, List.setIfInBounds_toArray, List.set]
  intro w3 bq hq x3 kq
  have X3 := Ext.trans X2 x3
  have z3 := x3.size
  replace kp := kp.ext x3
  replace kr := kr.ext x3
  have lq := kq.lt
  refine wp_next (wp_region_then ?_)
  refine wpList_allocA 52 _ _ zeroP rfl rfl ?_
  simp only [Act.put, List.setIfInBounds_toArray, List.set]
  intro w4 bo ho x4 ko
  have X4 := Ext.trans X3 x4
  have z4 := x4.size
  replace kp := kp.ext x4
  replace kr := kr.ext x4
  replace kq := kq.ext x4
  have lo := ko.lt
  refine wpList_allocA 52 _ _ zeroP rfl rfl ?_
  simp only [Act.put, List.setIfInBounds_toArray, List.set]
  intro w5 bl hl x5 kl
  have X5 := Ext.trans X4 x5
  have z5 := x5.size
  replace kp := kp.ext x5
  replace kr := kr.ext x5
  replace kq := kq.ext x5
  replace ko := ko.ext x5
  have ll := kl.lt
  refine wp_next (wp_region_then ?_)
  refine wpList_loadA arrK (.tmp 1) bp _ kp (size_cellsF _ _) rfl rfl rfl ?_
  simp only [Act.put, List.setIfInBounds_toArray, List.set]
  refine wpList_allocA 52 _ _ zeroP rfl rfl ?_
  simp only [Act.put, List.setIfInBounds_toArray, List.set]
  intro w6 bx hx x6 kx
  have X6 := Ext.trans X5 x6
  have z6 := x6.size
  replace kp := kp.ext x6
  replace kr := kr.ext x6
  replace kq := kq.ext x6
  replace ko := ko.ext x6
  replace kl := kl.ext x6
  have lx := kx.lt
  refine wpList_storeA arrP (.tmp 6) (.tmp 7) bx _ _ kx (size_cellsF _ _) (size_cellsF _ _) (one_cellsF _ _ _) rfl rfl rfl rfl ?_
  simp only [Act.put]
  clear kx
  intro w7 o7 kx
  have X7 := o7.ext X6 (by omega)
  have z7 := o7.size
  replace kp := o7.blk (by omega) kp
  replace kr := o7.blk (by omega) kr
  replace kq := o7.blk (by omega) kq
  replace ko := o7.blk (by omega) ko
  replace kl := o7.blk (by omega) kl
  refine wp_next ?_
  have H := Lib.hid (roundM_any bx bo bl w7 _ _ f _ _ kx.rowK ko kl (by omega) (by omega) (by omega) hf)
  have HX := Lib.hid X7
  have i1 : w.heap.size ≤ bo := by omega
  have i2 : w.heap.size ≤ bl := by omega
  have i3 : w.heap.size ≤ br := by omega
  have i4 : w.heap.size ≤ bq := by omega
  have j1 : br ≠ bo := by omega
  have j2 : br ≠ bl := by omega
  have j3 : bq ≠ bo := by omega
  have j4 : bq ≠ bl := by omega
  have j5 : br ≠ bq := by omega
  clear hf
  go_wp2_with (go_at_call 52; refine H.out.mono ?_; rintro e wa ⟨rfl, on, ko, kl⟩; replace kr := on.blk j1 j2 kr; replace kq := on.blk j3 j4 kq)
  refine wp_region_canon (Only2 br bq) [2, 3] [0, 1, 2, 3] mixed (Only2.refl br bq) Only2.trans (by decide) (by kernel_rfl) ?_
  intro wb xb eb
  simp only [pickO, List.getElem?_cons_succ, List.getElem?_cons_zero]
  replace ko := ko.of_heap eb
  replace kl := kl.of_heap eb
  replace kr := kr.of_heap eb
  replace kq := kq.of_heap eb
  have XB := (on.ext HX.out i1 i2).trans xb
  refine wpC_loadA arrP (.tmp 4) bo _ (fun _ h => h.blk j1.symm j3.symm ko) (size_cellsF _ _) rfl rfl rfl rfl ?_
  simp only [Act.put, List.setIfInBounds_toArray, List.set]
  refine wpC_loadA arrP (.tmp 5) bl _ (fun _ h => h.blk j2.symm j4.symm kl) (size_cellsF _ _) rfl rfl rfl rfl ?_
  simp only [Act.put, List.setIfInBounds_toArray, List.set]
  have s1 := Only.setRow (Only.refl br wb) (cellsF 256 (ints .u32 (lowF f)))
  refine wpC_unitW rfl rfl rfl (run_storeA arrK (.tmp 2) (.tmp 9) br _ _ (size_cellsF _ _) (size_cellsF _ _) (one_cellsF _ _ _) rfl rfl rfl kr) (Only2.of1 s1) ?_
  simp only [Act.put]
  have k3 := kr.setRow (cellsF 256 (ints .u32 (lowF f)))
  have k4 := s1.blk j5.symm kq
  have s2 := Only.setRow (Only.refl bq (wb.setRow br (cellsF 256 (ints .u32 (lowF f))))) (cellsF 256 (ints .u32 (highF f)))
  refine wpC_unitW rfl rfl rfl (run_storeA arrK (.tmp 3) (.tmp 10) bq _ _ (size_cellsF _ _) (size_cellsF _ _) (one_cellsF _ _ _) rfl rfl rfl k4) (Only2.of2 s2) ?_
  simp only [Act.put]
  have k5 := s2.blk j5 k3
  have k6 := k4.setRow (cellsF 256 (ints .u32 (highF f)))
  have XC := s2.ext (s1.ext XB i3) i4
  refine wpC_nil ?_
  generalize (wb.setRow br (cellsF 256 (ints .u32 (lowF f)))).setRow bq (cellsF 256 (ints .u32 (highF f))) = wc at k5 k6 XC ⊢
  go_wp2_with fail
  exact bodyPost_two_cells arrK arrK rfl br bq _ _ k5 (size_cellsF _ _) k6 (size_cellsF _ _) rfl rfl rfl ⟨rfl, XC⟩

theorem roundS_any (x : Int) (w : World) (h : 0 ≤ x ∧ x < 8380417) :
    Calls Try.prog 30 #[.int .i64 x, .int .i64 13] w fun e w' => e = .returned (.tuple #[.int .i64 (low13 x), .int .i64 (high13 x)]) ∧ Ext w w' := by
  obtain ⟨h1, h2⟩ := h
  go_enter Try.func30, Try.ntmps30
  have hl : (x + 4096 - 1) % 8192 - 4096 + 1 = low13 x := by unfold low13; omega
  have b1 : -4096 < low13 x ∧ low13 x ≤ 4096 := by unfold low13; omega
  have b2 : 0 ≤ x - low13 x := by unfold low13; omega
  have hh : (x - low13 x).tdiv 8192 = high13 x := by rw [Int.tdiv_eq_ediv_of_nonneg b2]; rfl
  have hw : IntKind.i64.wrap (x - low13 x) = x - low13 x := IntWalk.i64_in _ ⟨by omega, by omega⟩
  have hb : high13 x ≤ 1024 ∧ 0 ≤ high13 x := by unfold high13; omega
  have h8 : IntKind.i64.wrap 8192 = 8192 := by decide
  have hv : IntKind.i64.wrap (high13 x) = high13 x := IntWalk.i64_in _ ⟨by omega, by omega⟩
  generalize high13 x = hi at *
  generalize low13 x = lo at *
  go_wp2_with fail
  go_still mixed
  go_wp2_with fail
  go_ret2
  exact ⟨rfl, Ext.drew (Ext.refl _)⟩

end Go.Proofs.Ytgkombmhadgioaa
