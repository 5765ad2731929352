/- exceedsGeneric and DExceeds (Dilithium). -/
import Derived.Test.YtgkombmhadgioaaDTab
import Derived.Test.YtgkombmhadgioaaDField
import Derived.Test.YtgkombmhadgioaaUpto
import Derived.Lib.Hide
namespace Go.Proofs.Ytgkombmhadgioaa
open Go Go.Proofs Go.RowKit Go.Kd

theorem i32_xor0 (x : Int) (h : -2147483648 ≤ x ∧ x ≤ 2147483647) : bits .xor .i32 x 0 = x := by
  show IntKind.i32.wrap ((BitVec.ofInt 32 x ^^^ BitVec.ofInt 32 0).toNat : Int) = _
  have h2 : BitVec.ofInt 32 0 = 0#32 := by decide
  rw [h2, BitVec.xor_zero, IntKind.wrap_i32, BitVec.toNat_ofInt]
  omega
theorem i32_xorm (x : Int) (h : -2147483648 ≤ x ∧ x ≤ 2147483647) : bits .xor .i32 x (-1) = -x - 1 := by
  show IntKind.i32.wrap ((BitVec.ofInt 32 x ^^^ BitVec.ofInt 32 (-1)).toNat : Int) = _
  have h2 : BitVec.ofInt 32 (-1) = BitVec.allOnes 32 := by decide
  rw [h2, BitVec.xor_allOnes, IntKind.wrap_i32, BitVec.toNat_not, BitVec.toNat_ofInt]
  omega

/-- a number's distance from the nearest multiple of the prime -/
def norm (x : Int) : Int := if x ≤ 8380417 - x then x else 8380417 - x

set_option maxRecDepth 100000 in
theorem exceeds_any (b : Nat) (w : World) (T : TypeId) (f : Nat → Int) (n : Int) (hb : Blk w b T (cellsF 256 (ints .u32 f))) (hf : ∀ i, i < 256 → 0 ≤ f i ∧ f i < 8380417) (hn : 1 ≤ n ∧ n ≤ 1047552) :
    Calls Try.prog 69 #[.pointer (some ⟨b, 0, none⟩), .int .u32 n] w fun e w' => e = .returned (.bool (!(forallB 256 fun i => norm (f i) < n))) ∧ w = w' := by
  obtain ⟨n1, n2⟩ := hn
  go_enter Try.func69, Try.ntmps69
  go_wp2_with fail
  go_loop [5] (fun i => ∃ j : Nat, j ≤ 256 ∧ i = .int .i64 j ∧ Hid (∀ i, i < j → norm (f i) < n)) (fun i => 256 - (intOf i).toNat)
  case atStart => exact ⟨0, by omega, rfl, Lib.hid (fun i hi => by omega)⟩
  case round =>
    obtain ⟨j, hj, rfl, hall⟩ := hrel
    by_cases hjl : j < 256
    · obtain ⟨q1, q2⟩ := hf j hjl
      have ca : w.cell? ⟨b, j, none⟩ = some (.int .u32 (f j)) := hb.cell hjl
      clear hf hb
      have hm : ∃ y, norm (f j) = y ∧ 0 ≤ y ∧ y ≤ 4190208 ∧ (∀ x, x = 4190208 - f j → (x < 0 → bits .xor .i32 x (-1) = 4190208 - y) ∧ (0 ≤ x → bits .xor .i32 x 0 = 4190208 - y)) := by
        refine ⟨_, rfl, ?_, ?_, ?_⟩
        · unfold norm; split <;> omega
        · unfold norm; split <;> omega
        · rintro x rfl
          refine ⟨fun h => ?_, fun h => ?_⟩
          · rw [i32_xorm _ ⟨by omega, by omega⟩]; unfold norm; rw [if_neg (by omega)]; omega
          · rw [i32_xor0 _ ⟨by omega, by omega⟩]; unfold norm; rw [if_pos (by omega)]
      obtain ⟨y, hy, y1, y2, hbt⟩ := hm
      obtain ⟨hb1, hb2⟩ := hbt _ rfl
      clear hbt
      by_cases c0 : 4190208 - f j < 0
      · have hs : (4190208 - f j) / 2147483648 = -1 := by omega
        have HB := hb1 c0
        clear hb1 hb2
        by_cases c1 : n ≤ y
        · go_wp2_with fail
          go_ret
          exact ⟨by rw [forallB_false j hjl (by omega)]; rfl, rfl⟩
        · go_wp2_with fail
          go_round
          case rel => exact ⟨j + 1, by omega, by go_num, Lib.hid fun i hi => by
            by_cases e : i = j
            · subst e; omega
            · exact hall.out i (by omega)⟩
          case measure => simp [intOf]; omega
      · have hs : (4190208 - f j) / 2147483648 = 0 := by omega
        have HB := hb2 (by omega)
        clear hb1 hb2
        by_cases c1 : n ≤ y
        · go_wp2_with fail
          go_ret
          exact ⟨by rw [forallB_false j hjl (by omega)]; rfl, rfl⟩
        · go_wp2_with fail
          go_round
          case rel => exact ⟨j + 1, by omega, by go_num, Lib.hid fun i hi => by
            by_cases e : i = j
            · subst e; omega
            · exact hall.out i (by omega)⟩
          case measure => simp [intOf]; omega
    · have hj' : j = 256 := by omega
      subst hj'
      clear hf hb
      go_wp2_with fail
      go_ret
      exact ⟨by rw [forallB_true hall.out]; rfl, rfl⟩
theorem exceedsM_any (b : Nat) (w : World) (T : TypeId) (f : Nat → Int) (n : Int) (hb : Blk w b T (cellsF 256 (ints .u32 f))) (hf : ∀ i, i < 256 → 0 ≤ f i ∧ f i < 8380417) (hn : 1 ≤ n ∧ n ≤ 1047552) :
    Calls Try.prog 49 #[.pointer (some ⟨b, 0, none⟩), .int .u32 n] w fun e w' => e = .returned (.bool (!(forallB 256 fun i => norm (f i) < n))) ∧ w = w' := by
  have H := Lib.hid (exceeds_any b w T f n hb hf hn)
  clear hb hf hn
  go_enter Try.func49, Try.ntmps49
  go_wp2_with (go_at_call 69; refine H.out.mono ?_; rintro e w' ⟨rfl, rfl⟩)
  go_ret
  exact ⟨rfl, rfl⟩
theorem dExceeds_any (f : Nat → Int) (n : Int) (w : World) (hf : ∀ i, i < 256 → 0 ≤ f i ∧ f i < 8380417) (hn : 1 ≤ n ∧ n ≤ 1047552) :
    Calls Try.prog 25 #[.agg (cellsF 256 (ints .u32 f)), .int .u32 n] w fun e w' => e = .returned (.bool (!(forallB 256 fun i => norm (f i) < n))) ∧ Ext w w' := by
  go_enter Try.func25, Try.ntmps25
  refine wp_region_then ?_
  refine wpList_boxA 27 (.tmp 0) _ rfl rfl rfl ?_
  simp only [Act.put, List.setIfInBounds_toArray, List.set]
  intro w1 bp hp x1 kp
  have X1 := Ext.trans (Ext.refl w) x1
  have z1 := x1.size
  have lp := kp.lt
  refine wpList_val (v := .bool false) rfl rfl ?_
  simp only [Act.put, List.setIfInBounds_toArray, List.set]
  refine wp_next (wp_region_then ?_)
  refine wpList_loadA arrK (.tmp 2) bp _ kp (size_cellsF _ _) rfl rfl rfl ?_
  simp only [Act.put, List.setIfInBounds_toArray, List.set]
  refine wpList_allocA 52 _ _ zeroP rfl rfl ?_
  simp only [Act.put, List.setIfInBounds_toArray, List.set]
  intro w2 bx hx x2 kx
  have X2 := Ext.trans X1 x2
  have z2 := x2.size
  replace kp := kp.ext x2
  have lx := kx.lt
  refine wpList_storeA arrP (.tmp 5) (.tmp 6) bx _ _ kx (size_cellsF _ _) (size_cellsF _ _) (one_cellsF _ _ _) rfl rfl rfl rfl ?_
  simp only [Act.put]
  clear kx
  intro w3 o3 kx
  have X3 := o3.ext X2 (by omega)
  have z3 := o3.size
  replace kp := o3.blk (by omega) kp
  refine wp_next ?_
  have H := Lib.hid (exceedsM_any bx w3 _ f n kx hf hn)
  have HX := Lib.hid X3
  clear hf hn
  go_wp2_with (go_at_call 49; refine H.out.mono ?_; rintro e w' ⟨rfl, rfl⟩)
  go_ret
  exact ⟨rfl, HX.out⟩
end Go.Proofs.Ytgkombmhadgioaa
