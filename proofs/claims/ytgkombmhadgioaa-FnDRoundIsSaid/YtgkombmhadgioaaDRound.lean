/- power2RoundGeneric, DPower2Round (Dilithium). -/
import Derived.Test.YtgkombmhadgioaaDTab
import Derived.Test.YtgkombmhadgioaaDOne
import Derived.Test.YtgkombmhadgioaaOnly2
import Derived.Test.YtgkombmhadgioaaRet
import Derived.Lib.Hide
namespace Go.Proofs.Ytgkombmhadgioaa
open Go Go.Proofs Go.RowKit Go.Kd
set_option linter.unusedSimpArgs false
set_option linter.unusedVariables false
theorem szR : (Try.prog.info? 23).map (·.size) = some 1 := by kernel_rfl
def lowF (f : Nat → Int) : Nat → Int := fun i => 8380417 + low13 (f i)
def highF (f : Nat → Int) : Nat → Int := fun i => high13 (f i)

set_option maxRecDepth 100000 in
set_option maxHeartbeats 1000000 in
theorem round_any (b b1 b2 : Nat) (w : World) (T1 T2 : TypeId) (f Z1 Z2 : Nat → Int) (hb : RowK w b 256 .u32 f) (hd1 : Blk w b1 T1 (cellsF 256 (ints .u32 Z1))) (hd2 : Blk w b2 T2 (cellsF 256 (ints .u32 Z2)))
    (n1 : b ≠ b1) (n2 : b ≠ b2) (n3 : b1 ≠ b2) (hf : ∀ i, i < 256 → 0 ≤ f i ∧ f i < 8380417) :
    Calls Try.prog 72 #[.pointer (some ⟨b, 0, none⟩), .pointer (some ⟨b1, 0, none⟩), .pointer (some ⟨b2, 0, none⟩)] w fun e w' => e = .returned (.tuple #[]) ∧ Only2 b1 b2 w w' ∧
      Blk w' b1 T1 (cellsF 256 (ints .u32 (lowF f))) ∧ Blk w' b2 T2 (cellsF 256 (ints .u32 (highF f))) := by
  go_enter Try.func72, Try.ntmps72
  go_wp2_with fail
  go_loopw [6] (fun i wr => ∃ j : Nat, j ≤ 256 ∧ i = .int .i64 j ∧ Only2 b1 b2 w wr ∧ Blk wr b1 T1 (cellsF 256 (upto j (ints .u32 (lowF f)) (ints .u32 Z1))) ∧ Blk wr b2 T2 (cellsF 256 (upto j (ints .u32 (highF f)) (ints .u32 Z2)))) (fun i _ => 256 - (intOf i).toNat)
  case atStart => exact ⟨0, by omega, rfl, Only2.refl _ _ _, by rw [upto_zero]; exact hd1, by rw [upto_zero]; exact hd2⟩
  case round =>
    obtain ⟨j, hj, rfl, ho, k1, k2⟩ := hrel
    by_cases hl : j < 256
    · have hz : (j : Int) < 256 := by omega
      have hq := hf j hl
      have hrow := ho.row n1 n2 hb
      clear hb hd1 hd2 hf
      go_wp2_with fail
      refine wp_region_canon (Only2 b1 b2) [15, 18] [0, 1, 2, 3, 4, 5, 6, 7, 8, 9, 10, 11, 12, 13, 14, 16, 15, 17, 18] mixed (Only2.refl b1 b2) Only2.trans (by decide) (by kernel_rfl) ?_
      intro w1 x1 e1
      simp only [pickO, List.getElem?_cons_succ, List.getElem?_cons_zero]
      have o1 : Only2 b1 b2 wr w1 := Only2.of_heap x1 e1
      have r1 := o1.row n1 n2 hrow
      replace k1 := k1.of_heap e1
      replace k2 := k2.of_heap e1
      refine wpC_move (.tmp 1) rfl rfl rfl ?_
      simp only [Act.put, List.setIfInBounds_toArray, List.set]
      refine wpC_move (.tmp 6) rfl rfl rfl ?_
      simp only [Act.put, List.setIfInBounds_toArray, List.set]
      refine wpC_move (.tmp 2) rfl rfl rfl ?_
      simp only [Act.put, List.setIfInBounds_toArray, List.set]
      refine wpC_move (.tmp 6) rfl rfl rfl ?_
      simp only [Act.put, List.setIfInBounds_toArray, List.set]
      refine wpC_move (.tmp 0) rfl rfl rfl ?_
      simp only [Act.put, List.setIfInBounds_toArray, List.set]
      refine wpC_move (.tmp 6) rfl rfl rfl ?_
      simp only [Act.put, List.setIfInBounds_toArray, List.set]
      refine wpC_val (.pointer (some ⟨b, 0, none⟩)) rfl rfl (fun _ _ => rfl) ?_
      simp only [Act.put, List.setIfInBounds_toArray, List.set]
      refine wpC_val (.pointer (some ⟨b, j, none⟩)) rfl rfl (fun w' _ => by go_simp) ?_
      simp only [Act.put, List.setIfInBounds_toArray, List.set]
      refine wpC_val (.int .u32 (f j)) rfl rfl (fun w' h => by have hc := (h.row n1 n2 r1).2 j hl; go_simp) ?_
      simp only [Act.put, List.setIfInBounds_toArray, List.set]
      refine wpC_callP (.tuple #[.int .u32 (lowF f j), .int .u32 (highF f j)]) _ _ Try.func73 (by kernel_rfl) (by kernel_rfl) rfl rfl rfl (fun w' _ => p2r_any _ _ hq) ?_
      simp only [Act.put, List.setIfInBounds_toArray, List.set]
      refine wpC_move (.tmp 21) rfl rfl rfl ?_
      simp only [Act.put, List.setIfInBounds_toArray, List.set]
      refine wpC_val (.int .u32 (lowF f j)) rfl rfl (fun _ _ => rfl) ?_
      simp only [Act.put, List.setIfInBounds_toArray, List.set]
      refine wpC_val (.int .u32 (highF f j)) rfl rfl (fun _ _ => rfl) ?_
      simp only [Act.put, List.setIfInBounds_toArray, List.set]
      refine wpC_val (.pointer (some ⟨b1, 0, none⟩)) rfl rfl (fun _ _ => rfl) ?_
      simp only [Act.put, List.setIfInBounds_toArray, List.set]
      refine wpC_val (.pointer (some ⟨b1, j, none⟩)) rfl rfl (fun w' _ => by go_simp) ?_
      simp only [Act.put, List.setIfInBounds_toArray, List.set]
      refine wpC_val (.pointer (some ⟨b2, 0, none⟩)) rfl rfl (fun _ _ => rfl) ?_
      simp only [Act.put, List.setIfInBounds_toArray, List.set]
      have s1 := Only.setCell (Only.refl b1 w1) (i := j) (.int .u32 (lowF f j))
      refine wpC_unitW rfl rfl rfl (run_storeI szR (.tmp 25) (.tmp 22) b1 j .u32 (lowF f j) k1 hl rfl rfl rfl) (Only2.of1 s1) ?_
      simp only [Act.put]
      have k3 := k1.setCell j (.int .u32 (lowF f j))
      refine wpC_val (.pointer (some ⟨b2, j, none⟩)) rfl rfl (fun w' _ => by go_simp) ?_
      simp only [Act.put, List.setIfInBounds_toArray, List.set]
      have k4 := s1.blk n3.symm k2
      have s2 := Only.setCell (Only.refl b2 (w1.setCell ⟨b1, j, none⟩ (.int .u32 (lowF f j)))) (i := j) (.int .u32 (highF f j))
      refine wpC_unitW rfl rfl rfl (run_storeI szR (.tmp 27) (.tmp 23) b2 j .u32 (highF f j) k4 hl rfl rfl rfl) (Only2.of2 s2) ?_
      simp only [Act.put]
      have k5 := s2.blk n3 k3
      have k6 := k4.setCell j (.int .u32 (highF f j))
      have o2 := ho.trans (o1.trans ((Only2.of1 (c := b2) s1).trans (Only2.of2 s2)))
      refine wpC_nil ?_
      generalize (w1.setCell ⟨b1, j, none⟩ (.int .u32 (lowF f j))).setCell ⟨b2, j, none⟩ (.int .u32 (highF f j)) = w3 at k5 k6 o2 ⊢
      rw [upto_set (by rfl)] at k5 k6
      go_wp2_with fail
      go_roundw
      case rel => exact ⟨j + 1, by omega, by go_num, o2, k5, k6⟩
      case measure => simp [intOf]; omega
    · have hj' : j = 256 := by omega
      subst hj'
      go_wp2_with fail
      go_end0
      exact ⟨rfl, ho, by rw [upto_all] at k1; exact k1, by rw [upto_all] at k2; exact k2⟩
end Go.Proofs.Ytgkombmhadgioaa
